import PyProof.Rows.All
import Wide.All
import OpenK.AllK
import Wide.FinOn
import PyProof.EqAt
import PyProof.EqKinds
import PyProof.FactsAll.list_1
import PyProof.FactsAll.list_2
import PyProof.GenQ
import PyProof.MeetsSeq3
import PySem.Challenge.RW_ny0103_01
section
open PySem PySem.W PyProof.Rows
set_option Elab.async false
set_option maxRecDepth 100000
set_option maxHeartbeats 8000000
namespace Mine
noncomputable def view : Program :=
  { PySem.Challenge.rw_ny0103_01.row.prog with main := { PySem.Challenge.rw_ny0103_01.row.prog.main with
    body := ((((PySem.Challenge.rw_ny0103_01.row.prog.main.body.eraseIdx 10).eraseIdx 7).eraseIdx 6).eraseIdx 3).eraseIdx 0 } }
noncomputable def looseN : List Str := [Str.ofString "_initial_missing", Str.ofString "reduce"]
theorem head_of (H : Hook) (k1 : PySem.Challenge.rw_ny0103_01.row.wellSaid = true)
    (left : LeftO PySem.Challenge.rw_ny0103_01.row.prog view looseN (fun s => xlAt view [] s && recOk (RowW.records PySem.Challenge.rw_ny0103_01.row.toRowW) s) (Hook.obs H) (Hook.val H) 1236)
    (hw : PySem.Challenge.rw_ny0103_01.row.toRowW.promised)
    {d : DefRec} (hdef : defOf view PySem.Challenge.rw_ny0103_01.row.name = some (d, [])) (hp : PySem.Challenge.rw_ny0103_01.row.prog.theDef PySem.Challenge.rw_ny0103_01.row.name = some (d.params, d.body, d.scope)) (hk : kwWritten? d.params.kwonlyargs d.params.kw_defaults = some [])
    (call : WalkO view looseN (XL view []) (Hook.says H) PySem.Challenge.rw_ny0103_01.row.toRowW d [] fun f vs => PySem.call f vs) : PySem.Challenge.rw_ny0103_01.row.Holds :=
  holds_open left (Hook.of H) (Hook.keeps H) (fun s e => xl_of s (Bool.and_eq_true_iff.mp e).1) XL.keeps hdef hp hk
    (fun s e => recFacts_of (Bool.and_eq_true_iff.mp e).2) (by rfl) k1 (by decide +kernel) ⟨rfl, rfl, rfl, rfl, rfl, by decide +kernel⟩ hw call
theorem lk1 : sreFenced PySem.Challenge.rw_ny0103_01.row.prog.main = true := (congrFun PySem.W.Fast.te11788848310118352699 _).trans (by kernel_rfl)
theorem lk2 : ((moduleNames PySem.Challenge.rw_ny0103_01.row.prog.main.body).isEmpty || lookedIntoSs (moduleNames PySem.Challenge.rw_ny0103_01.row.prog.main.body) PySem.Challenge.rw_ny0103_01.row.prog.main.body) = true := by kernel_rfl
theorem lk3 : namesResolve PySem.Challenge.rw_ny0103_01.row.prog = true := (congrFun PySem.W.Fast.te8377067652309620493 _).trans (by kernel_rfl)
theorem lk4 : (PySem.Challenge.rw_ny0103_01.row.prog.boundNames.all fun n => !worldNames.contains n) = true := by kernel_rfl
theorem lk5 : noRoadLSs { strict := !(importedModules PySem.Challenge.rw_ny0103_01.row.prog.main.body).all cThrough.contains, foot := none, bare := (["vars", "dir", "locals"] : List Str).filter (readsOut PySem.Challenge.rw_ny0103_01.row.prog PySem.Challenge.rw_ny0103_01.row.prog.main.body) } PySem.Challenge.rw_ny0103_01.row.prog.main.body = true := by
  rw [PySem.W.Fast.te8326940854005059898, PySem.W.Fast.te13343964577679436407, PySem.W.Fast.te5923862056798008813]; kernel_rfl
theorem lk6 : namesMeet PySem.Challenge.rw_ny0103_01.row.prog PySem.Challenge.rw_ny0103_01.row.prog.main.body (fun _ n => attrL n) = true := by
  rw [PySem.W.Fast.te17119622794617984870, PySem.W.Fast.te17868728402115742887]; kernel_rfl
theorem looksY : looksOpen PySem.Challenge.rw_ny0103_01.row.prog = true := by
  unfold looksOpen
  repeat' (with_reducible refine look_both ?_ ?_)
  · exact lk1
  · exact lk2
  · exact lk3
  · exact lk4
  · exact lk5
  · exact lk6
theorem rowSaid : OpenRow.wellSaid PySem.Challenge.rw_ny0103_01.row = true := by
  unfold OpenRow.wellSaid OpenRow.partSaid
  repeat' (with_reducible refine look_both ?_ ?_)
  all_goals (first | (with_reducible exact looksY) | kernel_rfl)
theorem said : OpenLaw.wellSaid PySem.Challenge.rw_ny0103_01 = true := by
  unfold OpenLaw.wellSaid
  repeat' (with_reducible refine look_both ?_ ?_)
  all_goals (first | (with_reducible exact rowSaid) | (rw [PySem.W.Fast.te17119622794617984870]; kernel_rfl) | (rw [PySem.W.Fast.te8326940854005059898]; kernel_rfl) | kernel_rfl)
local macro_rules | `(tactic| o_law) => `(tactic| refine holds_law said fun said => ?_)
set_option hygiene false in
local macro_rules | `(tactic| o_head $H) => `(tactic| (refine head_of $H (by assumption) ?hl ?hw (by rfl) (by rfl) (by rfl) ?hc; (case hl => intro w; kernel_rfl)))
open_top hd for PySem.Challenge.rw_ny0103_01
end Mine
end
example : True := by w_top off; trivial
section
open PySem PySem.W PySem.Calls PyProof.Rows
set_option Elab.async false
set_option maxRecDepth 100000
namespace Mine

noncomputable abbrev PR : Program := PySem.Challenge.rw_ny0103_01.row.prog
noncomputable abbrev KK (w : World) : Frag := Mine.hd.heap_1 w.params

section
variable {prog : Program} {w : World} {A : Around} {s : Shared} {K : Frag}
  {R : Result → Shared → Prop} {name qual : Str} {params : Arguments} {body : List Stmt} {scope : Scope} {dV kV doc pm cdv ct oc : Value} {an od : Option Addr} {osl : Array (Option Value)} {f : Addr} {args : Args} {binds : List (Str × Value)}

theorem enter (X : K.In s.heap) (hlim : s.heap.NoLimit)
    (ho : K.lookup f = some ⟨oc, od, .func (fnOf name qual params body scope dV kV doc pm an cdv ct), osl⟩) (hcd : codeIn K cdv qual = true) (hroom : A.depth < recursionLimit)
    (hbind : BindsTo s (fnOf name qual params body scope dV kV doc pm an cdv ct) args binds) (hloc : ∀ y ∈ binds, scope.names.lookup y.1 = some .local)
    (h : ∀ L' h₁, Fr s.heap L' h₁ (fun y => binds.reverse.lookup y) → News s.heap L' h₁ [] →
      wpAny (model prog w) (A.deeper (envOf qual scope L' f cdv)) (execs body (envOf qual scope L' f cdv))
        (fun fl s' => R (.ok (.ret (match fl with | .ret v => v | _ => .none))) s')
        (fun _ _ => False)
        { s with heap := h₁, toks := s.toks + binds.length })
    (hcell : ∀ x ∈ scope.names, x.2 ≠ .cell) (hco : scope.isCoroutine = false) (hgen : scope.isGenerator = false) (hk : scope.kind = .function) : codeAny (model prog w) A (.call (.ref f) args) R s := by
  refine codeAny_call_def (fd := fnX name qual params body scope [] dV kV doc pm an cdv ct) (body := body) (binds := binds) hroom (X _ _ ho) rfl hlim (codeRec_of X hcd) rfl hbind hcell hloc (fun h₁ hns hk₁ => ?_) hco hgen hk
  exact wpAny_mono (h s.heap.objs.size h₁ ⟨hns, hk₁, Nat.le_refl _⟩ News.nil) (fun _ _ x => x) (fun _ _ x => x.elim)
end

noncomputable def TurnI (I : Nat → Shared → Prop) (n : Nat) (s : Shared) : Prop := ∃ m, m < n ∧ I m s

section
variable {prog : Program} {w : World} {A : Around} {E : Value → Shared → Prop} {s : Shared} {env : Env} {test : PySem.Expr} {body orelse : List Stmt} {Q : Flow → Shared → Prop}
theorem while_inv {pos : Pos} (I : Nat → Shared → Prop) (hE : PassesOwn (model prog w) A env E)
    (turn : ∀ n s, I n s → wpAny (model prog w) A (isTrue test env (eval test env)) (fun b s₂ => WhlIf b
      (wpAny (model prog w) A (execs body env) (fun f s' => match f with | .next => TurnI I n s' | .cont => TurnI I n s' | .brk => Q .next s' | .ret v => Q (.ret v) s') E s₂)
      (wpAny (model prog w) A (execs orelse env) Q E s₂)) E s)
    (n : Nat) (h : I n s) : wpAny (model prog w) A (exec (.While test body orelse pos) env) Q E s := by
  refine whl_start 0 ?_
  have all : ∀ n s, I n s → WhlRest prog w A E env test body orelse Q 1 s := by
    intro n
    induction n using Nat.strongRecOn with
    | ind n ih =>
      intro s hI
      refine whl_turn (k := 0) hE (wpAny_mono (turn n s hI) (fun b s₂ h₂ => ?_) fun _ _ x => x)
      cases b with
      | false => exact h₂
      | true =>
        unfold WhlIf at h₂ ⊢
        rw [if_pos rfl] at h₂ ⊢
        refine wpAny_mono h₂ (fun f s' h₃ => ?_) fun _ _ x => x
        cases f with
        | next => obtain ⟨m, hm, hI'⟩ := h₃; exact ih m hm s' hI'
        | cont => obtain ⟨m, hm, hI'⟩ := h₃; exact ih m hm s' hI'
        | brk => exact h₃
        | ret v => exact h₃
  exact all n s h
end
theorem loopAt {prog : Program} {w : World} {A : Around} {h₀ : Heap} {env : Env} {x : Str} {body : List Stmt} {Q : Flow → Shared → Prop} {E : Value → Shared → Prop} {it : Value} {s₂ : Shared}
    (I : Addr) (fp wr : List Addr) (n : Nat) (P : Nat → Value → Prop) (St : Nat → Heap → Prop) (m : Str → Option Value) (news : List (Addr × Obj)) (J : Nat → (Str → Option Value) → List (Addr × Obj) → Prop)
    (h1 : it = .ref I) (h2 : Walks prog w A I fp wr n P St) (h3 : env.locals ∉ fp) (h4 : ∀ b ∈ wr, h₀.get? b = none) (h5 : ∀ p ∈ news, p.1 ∉ wr) (h6 : St 0 s₂.heap) (h7 : Fr h₀ env.locals s₂.heap m) (h8 : News h₀ env.locals s₂.heap news) (h9 : J 0 m news)
    (h10 : ∀ i v m₁ news₁ s₁ own, (∃ h tk, s₁ = { s₂ with heap := h, toks := tk }) → i < n → P i v → J i m₁ news₁ → (∀ p ∈ news₁, p.1 ∉ wr) → (∀ p ∈ own, p.1 ∈ fp) → (∀ p ∈ own, s₁.heap.get? p.1 = some p.2) → (∀ b ∈ fp, h₀.get? b = none → ∀ o, s₁.heap.get? b = some o → (b, o) ∈ own) → St (i + 1) s₁.heap →
      Fr h₀ env.locals s₁.heap (fun y => if y = x then some v else m₁ y) → News h₀ env.locals s₁.heap (own ++ news₁) →
      wpAny (model prog w) A (execs body env) (LoopStepV h₀ env.locals wr own (J (i + 1)) s₁ (fun v s' => Q (.ret v) s') fun s' => Q .next s') E s₁)
    (h11 : ∀ h' tk m' news', Fr h₀ env.locals h' m' → News h₀ env.locals h' news' → (∀ p ∈ news', p.1 ∉ wr) → J n m' news' → Q .next { s₂ with heap := h', toks := tk }) : LoopAtV prog w A h₀ env x body Q E it s₂ :=
  ⟨I, fp, wr, n, P, St, m, news, J, h1, h2, h3, h4, h5, h6, h7, h8, h9, h10, h11⟩
theorem loopAtT {prog : Program} {w : World} {A : Around} {h₀ : Heap} {env : Env} {target : PySem.Expr} {body : List Stmt} {Q : Flow → Shared → Prop} {E : Value → Shared → Prop} {it : Value} {s₂ : Shared}
    (I : Addr) (fp wr : List Addr) (n : Nat) (P : Nat → Value → Prop) (St : Nat → Heap → Prop) (m : Str → Option Value) (news : List (Addr × Obj)) (J : Nat → (Str → Option Value) → List (Addr × Obj) → Prop)
    (h1 : it = .ref I) (h2 : Walks prog w A I fp wr n P St) (h3 : env.locals ∉ fp) (h4 : ∀ b ∈ wr, h₀.get? b = none) (h5 : ∀ p ∈ news, p.1 ∉ wr) (h6 : St 0 s₂.heap) (h7 : Fr h₀ env.locals s₂.heap m) (h8 : News h₀ env.locals s₂.heap news)
    (h9 : ∀ i (s' : Shared) v (Q' : Unit → Shared → Prop), St i s'.heap → Q' () s' → wpAny (model prog w) A (letOwnedTupleGo target (.ref I) v) Q' E s') (h9' : J 0 m news)
    (h10 : ∀ i v m₁ news₁ s₁ own, i < n → P i v → J i m₁ news₁ → (∀ p ∈ news₁, p.1 ∉ wr) → (∀ p ∈ own, p.1 ∈ fp) → (∀ p ∈ own, s₁.heap.get? p.1 = some p.2) → (∀ b ∈ fp, h₀.get? b = none → ∀ o, s₁.heap.get? b = some o → (b, o) ∈ own) → St (i + 1) s₁.heap →
      Fr h₀ env.locals s₁.heap m₁ → News h₀ env.locals s₁.heap (own ++ news₁) →
      wpAny (model prog w) A (assign target env v) (fun _ s₃ => wpAny (model prog w) A (execs body env) (LoopStepU h₀ env.locals wr own (J (i + 1)) s₁) E s₃) E s₁)
    (h11 : ∀ h' tk m' news', Fr h₀ env.locals h' m' → News h₀ env.locals h' news' → (∀ p ∈ news', p.1 ∉ wr) → J n m' news' → Q .next { s₂ with heap := h', toks := tk }) : LoopAtT prog w A h₀ env target body Q E it s₂ :=
  ⟨I, fp, wr, n, P, St, m, news, J, h1, h2, h3, h4, h5, h6, h7, h8, h9, h9', h10, h11⟩
theorem ex6 {A1 A2 A3 A4 A5 A6 : Type} {p : A1 → A2 → A3 → A4 → A5 → A6 → Prop} (a1 : A1) (a2 : A2) (a3 : A3) (a4 : A4) (a5 : A5) (a6 : A6) (h : p a1 a2 a3 a4 a5 a6) : ∃ a1 a2 a3 a4 a5 a6, p a1 a2 a3 a4 a5 a6 := ⟨a1, a2, a3, a4, a5, a6, h⟩
end Mine
end
section
open PySem PySem.W PySem.Calls PyProof.Rows
set_option Elab.async false
set_option maxRecDepth 100000
namespace Mine

noncomputable def XAt (B h : Heap) (e : Addr) (c : Value) (st : Option Value) : Prop :=
  ∃ ob t, h.get? e = some ob ∧ ob.cls = .type "IndexError" ∧ (match st with
    | none => ob.data = .fields #[t, .none, c, .none, .bool false, .none]
    | some fl => ∃ T oT ts, ob.data = .fields #[t, .ref T, c, .none, .bool false, .none] ∧ B.get? T = none ∧ T ≠ e ∧ h.get? T = some oT ∧ oT.data = .fields ts ∧ ts[3]? = some fl)

structure XS (B : Heap) (l : List Env) (h₀ h : Heap) (e : Addr) (c : Value) (st : Option Value) : Prop where
  stays : B.StaysIn h
  frames : h.FunFrames B l
  fresh : B.get? e = none
  slots : h₀.UpToSlots h
  at_ : XAt B h e c st

section
variable {M : Model} {A : Around} {E : Value → Shared → Prop} {s : Shared} {B h₀ : Heap} {env : Env} {outer l : List Env} {L e : Addr} {c : Value}

theorem XS.noteFirst {Q : Unit → Shared → Prop} (x : XS B (env :: outer) h₀ s.heap e c none) (hfr : A.frames = some (env :: outer)) (hf : env.frame = some L)
    (h : ∀ h', XS B (env :: outer) h₀ h' e c (some (rawInt L)) → Q () { s with heap := h' }) : wpAny M A (noteFrame (.ref e) env) Q E s := by
  obtain ⟨hkb, hl, hen, hup, ob, t, he, hcls, hd⟩ := x
  dsimp only at hd
  unfold noteFrame
  simp only [hf]
  refine wpAny_bind (wpAny_field he hd (show (#[t, Value.none, c, .none, .bool false, .none] : Array Value)[1]? = some Value.none from rfl) ?_)
  rw [if_neg (by decide)]
  have hene : e ∉ (env :: outer).filterMap (·.frame) := fun hm => by
    obtain ⟨_, o, ho, hnf⟩ := hl.mem hm
    rw [he] at ho; injection ho with ho; subst ho; exact hnf _ hd
  refine wpAny_bind (wpAny_frameOf_fun hfr hl hf fun h₁ hs₁ => ?_)
  refine wpAny_bind (wpAny_entryPlaceOf fun pl hpl => ?_)
  unfold EntryCells.newEntry newFields
  refine wpAny_bind (wpAny_newObj_type ?_ (hpl.sizeOk5 _ _ _ _ _))
  have he₁ : h₁.get? e = some ob := (hs₁.2.1 e hene).trans he
  have kb₁ : B.StaysIn h₁ := fun b o hbo => (hs₁.2.1 b fun hm => by rw [(hl.mem hm).1] at hbo; cases hbo).trans (hkb b o hbo)
  have he₂ := Heap.get?_push_of_some (h := h₁) { cls := .type "traceback", dict := none, data := .fields ([Value.none, .ref L, .none, rawInt L, .none] ++ (if pl.isEmpty then List.replicate 6 Value.none else pl)).toArray } he₁
  refine wpAny_setField he₂ hd (by simp) (h _ ?_)
  have hTe : h₁.objs.size ≠ e := Nat.ne_of_gt (Heap.lt_size he₁)
  have hd₃ := Obj.data_mapFields hd (·.setIfInBounds 1 (Value.ref h₁.objs.size))
  have he₃ := Heap.get?_update_self (Obj.mapFields (·.setIfInBounds 1 (Value.ref h₁.objs.size))) he₂ (Obj.isFreed_of_fields hd₃)
  have hT₃ := (Heap.get?_update_other (h₁.push { cls := .type "traceback", dict := none, data := .fields ([Value.none, .ref L, .none, rawInt L, .none] ++ (if pl.isEmpty then List.replicate 6 Value.none else pl)).toArray })
    (Obj.mapFields (·.setIfInBounds 1 (Value.ref h₁.objs.size))) (Ne.symm hTe)).trans (Heap.get?_push_size h₁ rfl)
  have keep : ∀ b o, b ≠ e → h₁.get? b = some o →
      ((h₁.push { cls := .type "traceback", dict := none, data := .fields ([Value.none, .ref L, .none, rawInt L, .none] ++ (if pl.isEmpty then List.replicate 6 Value.none else pl)).toArray }).update e (Obj.mapFields (·.setIfInBounds 1 (Value.ref h₁.objs.size)))).get? b = some o :=
    fun b o hbe hb => by
      rw [Heap.get?_update_other _ _ (Ne.symm hbe)]
      exact Heap.get?_push_of_some _ hb
  have noRecord : ∀ b o, s.heap.get? b = some o → (∀ vs, o.data ≠ .fields vs) → b ≠ e := fun b o hb hnf q => by
    rw [q, he] at hb; injection hb with hb; subst hb; exact hnf _ hd
  refine ⟨fun b o hbo => keep b o (fun q => by rw [q, hen] at hbo; cases hbo) (kb₁ b o hbo), hl.of_keeps fun b o hb hnf => ?_, hen, hup.trans fun b o hb hnf => ?_, ?_⟩
  · obtain ⟨sl, hs⟩ := hs₁.2.2 b o hb
    exact ⟨_, keep b _ (noRecord b o hb hnf) hs, rfl⟩
  · obtain ⟨sl, hs⟩ := hs₁.2.2 b o hb
    exact ⟨sl, keep b _ (noRecord b o hb hnf) hs⟩
  · refine ⟨_, t, he₃, (Obj.cls_mapFields _ _).trans hcls, h₁.objs.size, _, _, hd₃, kb₁.fresh, hTe, hT₃, rfl, ?_⟩
    first | (simp; done) | (rcases hpl with rfl | ⟨_, _, _, _, _, _, _, rfl⟩ <;> simp)

theorem XS.noteAgain {Q : Unit → Shared → Prop} (x : XS B (env :: outer) h₀ s.heap e c (some (rawInt L))) (hf : env.frame = some L)
    (h : Q () s) : wpAny M A (noteFrame (.ref e) env) Q E s := by
  obtain ⟨hkb, hl, hen, hup, ob, t, he, hcls, T, oT, ts, hd, hT, hTe, hoT, hdT, h3⟩ := x
  unfold noteFrame
  simp only [hf]
  refine wpAny_bind (wpAny_field he hd (show (#[t, Value.ref T, c, .none, .bool false, .none] : Array Value)[1]? = some (Value.ref T) from rfl) ?_)
  rw [if_pos (show (Value.ref T != Value.none) = true from by simp)]
  refine wpAny_bind (wpAny_field hoT hdT h3 ?_)
  rw [if_pos (show (rawInt L == rawInt L) = true from by simp)]
  exact wpAny_pure h

theorem XS.fly {fl : Value} {fr : Option Addr} {Q : Unit → Shared → Prop} (x : XS B l h₀ s.heap e c (some fl))
    (h : ∀ h', XS B l h₀ h' e c (some (fr.elim .none fun f => rawInt f)) → Q () { s with heap := h' }) : wpAny M A (setFlight (.ref e) fr) Q E s := by
  obtain ⟨hkb, hl, hen, hup, ob, t, he, hcls, T, oT, ts, hd, hT, hTe, hoT, hdT, h3⟩ := x
  have hsz3 : 3 < ts.size := (Array.getElem?_eq_some_iff.mp h3).1
  have other : ∀ b, b ≠ T → (s.heap.update T (Obj.mapFields (·.setIfInBounds 3 (fr.elim Value.none fun f => rawInt f)))).get? b = s.heap.get? b :=
    fun b hb => Heap.get?_update_other _ _ (Ne.symm hb)
  have noRecord : ∀ b o, s.heap.get? b = some o → (∀ vs, o.data ≠ .fields vs) → b ≠ T := fun b o hb hnf q => by
    rw [q, hoT] at hb; injection hb with hb; subst hb; exact hnf ts hdT
  unfold setFlight
  refine wpAny_bind (wpAny_field he hd (show (#[t, Value.ref T, c, .none, .bool false, .none] : Array Value)[1]? = some (Value.ref T) from rfl) ?_)
  rw [if_pos (show (Value.ref T != Value.none) = true from by simp)]
  refine wpAny_setField hoT hdT hsz3 (h _ ⟨fun b o hbo => (other b fun q => by rw [q, hT] at hbo; cases hbo).trans (hkb b o hbo),
    hl.of_keeps fun b o hb hnf => ⟨o, (other b (noRecord b o hb hnf)).trans hb, rfl⟩, hen, hup.trans fun b o hb hnf => ⟨o.slots, (other b (noRecord b o hb hnf)).trans hb⟩, ?_⟩)
  exact ⟨ob, t, (other e (Ne.symm hTe)).trans he, hcls, T, _, _, hd, hT, hTe, Heap.get?_update_self _ hoT (Obj.isFreed_of_fields (Obj.data_mapFields hdT _)), Obj.data_mapFields hdT _, by simp [hsz3]⟩

theorem XS.back {fl : Value} {E' : Value → Shared → Prop} (x : XS B l h₀ s.heap e c (some fl)) (hf : env.frame = some L)
    (h : ∀ h', XS B l h₀ h' e c (some (rawInt L)) → E' (.ref e) { s with heap := h' }) : cameBackBy M A env E' (.ref e) s := by
  unfold cameBackBy
  have x0 := x
  obtain ⟨hkb, hl, hen, hup, ob, t, he, hcls, T, oT, ts, hd, hT, hTe, hoT, hdT, h3⟩ := x0
  refine wpAny_bind (wpAny_field he hd (show (#[t, Value.ref T, c, .none, .bool false, .none] : Array Value)[1]? = some (Value.ref T) from rfl) ?_)
  rw [if_neg (show ¬ (Value.ref T == Value.none) = true from by simp)]
  rw [hf]
  exact x.fly h

theorem XS.on {E' : Value → Shared → Prop} {α : Type} {Q : α → Shared → Prop} {what : String} {fl : Value} (x : XS B l h₀ s.heap e c (some fl)) (hf : env.frame = some L)
    (h : ∀ h', XS B l h₀ h' e c (some (rawInt L)) → E' (.ref e) { s with heap := h' }) : wpAny M A (PySem.passOn what (.ref e) env) Q E' s := by
  unfold PySem.passOn
  have x0 := x
  obtain ⟨hkb, hl, hen, hup, ob, t, he, hcls, T, oT, ts, hd, hT, hTe, hoT, hdT, h3⟩ := x0
  refine wpAny_bind (wpAny_field he hd (show (#[t, Value.ref T, c, .none, .bool false, .none] : Array Value)[1]? = some (Value.ref T) from rfl) ?_)
  rw [if_neg (show ¬ (Value.ref T == Value.none) = true from by simp)]
  rw [hf]
  exact wpAny_bind (x.fly fun h' x' => wpAny_throw (h h' x'))
end
end Mine
end
section
open PySem PySem.W PySem.Calls PyProof.Rows
set_option Elab.async false
set_option maxRecDepth 100000
namespace Mine

structure NewX (h h' : Heap) (e : Addr) (c : Value) : Prop where
  keeps : ∀ b o, h.get? b = some o → h'.get? b = some o
  new : h.get? e = none
  there : ∃ ob t, h'.get? e = some ob ∧ ob.cls = .type "IndexError" ∧ ob.data = .fields #[t, .none, c, .none, .bool false, .none]

theorem entry_unchain : entryFor table "proto.unchain" = some Builtin.«proto.unchain» := entryFor_of_fast (by kernel_rfl)

section
variable {prog : Program} {w : World} {A : Around} {E : Value → Shared → Prop} {s : Shared}
theorem codeAny_entry {id : String} {args : Args} {b : Builtin} {R : Result → Shared → Prop} (hb : entryFor table id = some b)
    (h : wpAny (model prog w) (A.under (.builtin id args)) (b args)
      (fun fin s' => match fin with | .done f => R (.ok f) s' | .again c' => c'.quiet = true ∧ codeAny (model prog w) A c' R s') (fun e s' => R (.error e) s') s) :
    codeAny (model prog w) A (.builtin id args) R s := by
  refine codeAny_of_tree ?_
  show wpAny _ _ (match entryFor table id with | some b => b args | none => unsupported ((withoutEnding? id "#data").getD id)) _ _ s
  rw [hb]; exact h

theorem unchain {h o : Value} {oa : Addr} {oo : Obj} {vs : Array Value} {Q : Value → Shared → Prop} (hoo : s.heap.get? oa = some oo) (hd : oo.data = .fields vs) (hc : vs[2]? = some .none) (hQ : Q .none s) :
    wpAny (model prog w) A (runValue (.builtin "proto.unchain" ⟨[h, .ref oa, o, .bool false], []⟩)) Q E s := by
  refine wpAny_runValue (codeAny_entry entry_unchain ?_)
  unfold Builtin.«proto.unchain»
  refine wpAny_bind (wpAny_field hoo hd hc ?_)
  rw [if_pos (by decide)]
  exact wpAny_pure hQ

theorem raise2 {α : Type} {msg : String} {Q : α → Shared → Prop} {e1 : Addr} {ob1 : Obj} {vs1 : Array Value} (hh : A.handled = some (.ref e1)) (h1 : s.heap.get? e1 = some ob1) (d1 : ob1.data = .fields vs1) (c1 : vs1[2]? = some .none)
    (h : ∀ h' tk e, NewX s.heap h' e (.ref e1) → E (.ref e) { s with heap := h', toks := tk }) :
    wpAny (model prog w) A (raiseErrorWords "IndexError" msg : Sem α) Q E s := by
  unfold raiseErrorWords
  refine wpAny_bind (wpAny_mkText (wpAny_bind ?_))
  unfold newExc newTuple
  refine wpAny_bind (wpAny_newObj_type ?_)
  refine wpAny_bind (m := firstArgMember _ _) (wpAny_of_eq (a := Value.none) (by simp only [firstArgMember, plainExc_IndexError.first]; rfl) ?_)
  rw [plainExc_IndexError.own]
  refine wpAny_newObj_type ?_
  unfold raiseNew
  refine wpAny_bind (wpAny_handled ?_)
  rw [hh]
  dsimp only
  have lt1 := Heap.lt_size h1
  have ne : (Value.ref e1 != Value.ref (s.heap.push { cls := Value.type "tuple", data := Data.seq [Value.str (Str.ofString msg) s.toks].toArray }).objs.size) = true := by
    rw [Heap.size_push]
    simp only [bne_iff_ne, ne_eq, Value.ref.injEq]
    exact Nat.ne_of_lt (Nat.lt_succ_of_lt lt1)
  rw [if_pos ne]
  refine wpAny_bind ?_
  refine wpAny_holding (unchain (Heap.get?_push_of_some _ (Heap.get?_push_of_some _ h1)) d1 c1 ?_)
  have he := Heap.get?_push_size (h := s.heap.push { cls := Value.type "tuple", data := Data.seq [Value.str (Str.ofString msg) s.toks].toArray }) (o := { cls := Value.type "IndexError", data := Data.fields (#[Value.ref s.heap.objs.size, Value.none, Value.none, Value.none, Value.bool false, Value.none] ++ #[]) }) rfl
  unfold updateField
  refine wpAny_bind (wpAny_bind (wpAny_load he ?_))
  dsimp only
  rw [if_pos (by simp)]
  refine wpAny_update he ?_
  refine wpAny_throw (h _ _ _ ⟨fun b o hb => ?_, Heap.get?_none_of_le (by simp), _, .ref s.heap.objs.size, Heap.get?_update_self _ he rfl, rfl, by simp [Obj.mapFields]⟩)
  have hb2 := Heap.lt_size hb
  rw [Heap.get?_update_other _ _ (by rw [Heap.size_push]; exact (Nat.ne_of_lt (Nat.lt_succ_of_lt hb2)).symm)]
  exact Heap.get?_push_of_some _ (Heap.get?_push_of_some _ hb)

theorem getItem_out2 {l : Addr} {items : Array Value} {k : Int} {t : Tok} {Q : Value → Shared → Prop} {e1 : Addr} {ob1 : Obj} {vs1 : Array Value} (hh : A.handled = some (.ref e1)) (h1 : s.heap.get? e1 = some ob1) (d1 : ob1.data = .fields vs1) (c1 : vs1[2]? = some .none) (hl : s.heap.IsList l items)
    (hout : (items.size : Int) ≤ k) (hlo : -(2 ^ 63) ≤ k) (hhi : k < 2 ^ 63)
    (hE : ∀ h' tk e, NewX s.heap h' e (.ref e1) → E (.ref e) { s with heap := h', toks := tk }) :
    wpAny (model prog w) A (getItem (.ref l) (.int k t)) Q E s := by
  obtain ⟨o, ho, hc, ne, hd⟩ := id hl
  unfold getItem
  try with_reducible refine wpAny_holding ?_
  first | refine wpAny_bind (wpAny_pure ?_) | skip
  refine wpAny_bind (wpAny_sequenceKey hl.typeIs (by decide) ?_)
  refine wpAny_bind (wpAny_callSpecial?_slot (name := Str.ofString "__getitem__") hl.typeIs slot_list_getitem
    (wpAny_call_entry slot_list_getitem hl.typeIs entry_list_getitem ?_ (args_list_getitem _ _)))
  show wpAny _ _ (Builtin.List.listSubscript? (.int k t) >>= _) _ _ s
  refine wpAny_bind (wpAny_listSubscript_int (fitsIndex_both hlo hhi) ?_)
  clear hlo hhi
  cases k with
  | ofNat j =>
    have hx : items[j]? = none := Array.getElem?_eq_none (by have : (items.size : Int) ≤ (j : Int) := hout; omega)
    show wpAny _ _ ((seqItemAt l j >>= fun r => pure (r.map (j, ·))) >>= _) _ _ s
    refine wpAny_bind (wpAny_bind (wpAny_seqItemAt ho hd (wpAny_pure ?_)))
    rw [hx]
    have hh' : A.in1.handled = some (.ref e1) := hh
    first
      | exact wpAny_bind (wpAny_rule (raise2 hh' h1 d1 c1 hE))
      | exact wpAny_bind (wpAny_rule (wpAny_bind (raise2 hh' h1 d1 c1 hE)))
      | exact wpAny_bind (wpAny_bind (wpAny_rule (raise2 hh' h1 d1 c1 hE)))
      | exact wpAny_rule (raise2 hh' h1 d1 c1 hE)
  | negSucc j => exact absurd hout (by have := Int.negSucc_lt_zero j; omega)
end
end Mine
end
section
open PySem PySem.W PySem.Calls PyProof.Rows
set_option Elab.async false
set_option maxRecDepth 100000
namespace Mine

section
variable {prog : Program} {w : World} {A : Around} {E : Value → Shared → Prop} {s : Shared} {base g h₀ B : Heap} {outer : List Env} {L a e : Addr} {m mg mb : Str → Option Value} {name : Str} {scope : Scope} {cd : Value} {K : Frag}
  {p : Program} {loose : List Str} {mean : ExcName → Option Value} {c : Value} {st : Option Value} {b₀ : Stmt} {suite : List Stmt} {pos np : Pos} {Q : Flow → Shared → Prop}

theorem item_out {value slice : Expr} {l : Addr} {items : Array Value} {k : Int} {t : Tok} {Q : Value → Shared → Prop} (hA : A.handled = none) (hl : s.heap.IsList l items) (hout : (items.size : Int) ≤ k) (hhi : k < 2 ^ 63)
    (hE : ∀ h' tk e, NewX s.heap h' e .none → E (.ref e) { s with heap := h', toks := tk })
    (hs : subscripted slice false (.ref l) (.int k t) = operate [.ref l, .int k t] (getItem (.ref l) (.int k t)) := by with_unfolding_all rfl) :
    wpAny (model prog w) A (subscriptTail value slice (.ref l) (.int k t)) Q E s :=
  tail_any hl.typeIs slot_list_getitem.lookup (wpAny_getItem_list_out hA hl (.inr hout) (by omega) hhi fun h' tk e x => hE h' tk e ⟨x.keeps, x.new, x.there⟩) hs
theorem item_out2 {value slice : Expr} {l : Addr} {items : Array Value} {k : Int} {t : Tok} {Q : Value → Shared → Prop} {e1 : Addr} {ob1 : Obj} {vs1 : Array Value} (hh : A.handled = some (.ref e1)) (h1 : s.heap.get? e1 = some ob1) (d1 : ob1.data = .fields vs1) (c1 : vs1[2]? = some .none) (hl : s.heap.IsList l items) (hout : (items.size : Int) ≤ k) (hhi : k < 2 ^ 63)
    (hE : ∀ h' tk e, NewX s.heap h' e (.ref e1) → E (.ref e) { s with heap := h', toks := tk })
    (hs : subscripted slice false (.ref l) (.int k t) = operate [.ref l, .int k t] (getItem (.ref l) (.int k t)) := by with_unfolding_all rfl) :
    wpAny (model prog w) A (subscriptTail value slice (.ref l) (.int k t)) Q E s :=
  tail_any hl.typeIs slot_list_getitem.lookup (getItem_out2 hh h1 d1 c1 hl hout (by omega) hhi hE) hs

theorem XS.start {h h₁ : Heap} (Bl : Below A base outer g) (F : Fr g L h m) (nx : NewX h h₁ e c) (hk : scope.kind = .function) :
    XS (hideAll h ((envOf name scope L a cd :: outer).filterMap (·.frame))) (envOf name scope L a cd :: outer) h h₁ e c none := by
  have K' := Bl.push (name := name) (a := a) (cd := cd) F hk
  have hin : ∀ env ∈ (envOf name scope L a cd :: outer), ∀ b, env.frame = some b → b ∈ (envOf name scope L a cd :: outer).filterMap (·.frame) := fun env he b hb => List.mem_filterMap.mpr ⟨env, he, hb⟩
  refine ⟨fun b o hb => nx.keeps b o (of_hideAll _ hb), (funFrames_hide K'.frames hin).of_keeps fun b o hb _ => ⟨o, nx.keeps b o hb, rfl⟩, ?_, .of_keeps nx.keeps, ?_⟩
  · cases q : (hideAll h ((envOf name scope L a cd :: outer).filterMap (·.frame))).get? e with
    | none => rfl
    | some o => have := of_hideAll _ q; rw [nx.new] at this; cases this
  · obtain ⟨ob, t, he, hcls, hd⟩ := nx.there
    exact ⟨ob, t, he, hcls, hd⟩

theorem NewX.of {h h₁ : Heap} {e : Addr} (x : Heap.NewExc h h₁ e "IndexError") : NewX h h₁ e .none := ⟨x.keeps, x.new, x.there⟩

theorem caughtX (Bl : Below A base outer g) (F : Fr g L h₀ m) (XB : K.In base) (TB : Top p loose mean mg mb base)
    (hBG : ∀ b o, h₀.get? b = some o → b ∉ (envOf name scope L a cd :: outer).filterMap (·.frame) → B.get? b = some o)
    (x : XS B (envOf name scope L a cd :: outer) h₀ s.heap e c st) (hst : st = none ∨ st = some (rawInt L))
    (hno : nsIn K mainGlobals (Str.ofString "IndexError") = some none)
    (k : ∀ h' g', KtsTurn (outer.filterMap (·.frame)) g g' → Fr g' L h' m → Below A base outer g' → B.StaysIn h' →
      wpAny (model prog w) ((A.deeper (envOf name scope L a cd)).mark (some (.ref e))) (execs (b₀ :: suite) (envOf name scope L a cd)) Q (fun _ _ => False) { s with heap := h' })
    (hk : scope.kind = .function) (hx : (envOf name scope L a cd).kindOf (Str.ofString "IndexError") = some .globalImplicit) :
    wpAny (model prog w) (A.deeper (envOf name scope L a cd)) (noteFrame (.ref e) (envOf name scope L a cd))
      (fun _ s₂ => wpAny (model prog w) (A.deeper (envOf name scope L a cd)) (setFlight (.ref e) none) (fun _ s₃ =>
        wpAny (model prog w) (A.deeper (envOf name scope L a cd)) (handleBy (.ref e) (envOf name scope L a cd) [.ExceptHandler (some (.Name (Str.ofString "IndexError") np)) none (b₀ :: suite) pos]) Q E s₃) E s₂) E s := by
  have hfr : (A.deeper (envOf name scope L a cd)).frames = some (envOf name scope L a cd :: outer) := Around.frames_deeper Bl.stack
  have go : ∀ h₁, XS B (envOf name scope L a cd :: outer) h₀ h₁ e c (some (rawInt L)) →
      wpAny (model prog w) (A.deeper (envOf name scope L a cd)) (setFlight (.ref e) none) (fun _ s₃ =>
        wpAny (model prog w) (A.deeper (envOf name scope L a cd)) (handleBy (.ref e) (envOf name scope L a cd) [.ExceptHandler (some (.Name (Str.ofString "IndexError") np)) none (b₀ :: suite) pos]) Q E s₃) E { s with heap := h₁ } := by
    intro h₁ x₁
    refine x₁.fly fun h₂ x₂ => ?_
    obtain ⟨g₂, T₂, F₂, B₂⟩ := kts_ground Bl F hBG x₂.stays x₂.slots
    have X₂ : K.In g₂ := XB.keeps B₂.stays
    have TT₂ := TB.keeps B₂.stays
    obtain ⟨ob, t, he, hcls, _⟩ := x₂.at_
    refine wpAny_handleBy_builtin (X := "IndexError") (T := "IndexError") (b := true) (by rfl) (by rfl) (by rfl)
      (nameX_B (cl := []) F₂ X₂ (topRead_of TT₂) hno (by boot_by_name) (by decide) ⟨rfl, ⟨ob, he, hcls⟩, ?_⟩ hk hx)
    refine x₂.fly fun h₃ x₃ => ?_
    obtain ⟨g₃, T₃, F₃, B₃⟩ := kts_ground Bl F hBG x₃.stays x₃.slots
    exact wpAny_mono (k h₃ g₃ T₃ F₃ B₃ x₃.stays) (fun _ _ y => y) fun _ _ y => y.elim
  rcases hst with rfl | rfl
  · exact x.noteFirst hfr rfl fun h₁ x₁ => go h₁ x₁
  · exact x.noteAgain rfl (go _ x)

theorem news_after {h h' g' : Heap} {news : List (Addr × Obj)} (Bl : Below A base outer g) (N : News g L h news) (T : KtsTurn (outer.filterMap (·.frame)) g g')
    (st : (hideAll h ((envOf name scope L a cd :: outer).filterMap (·.frame))).StaysIn h') : News g' L h' news := fun q hq => by
  obtain ⟨h1, h2, h3⟩ := N q hq
  refine ⟨st _ _ (hideAll_get _ h1 fun hm => ?_), h2, T.none_ _ h3⟩
  rcases kts_mem hm with z | z
  · exact h2 z
  · obtain ⟨_, o, ho, _⟩ := Bl.frames.mem z
    rw [h3] at ho; cases ho

noncomputable def EX (B : Heap) (l : List Env) (L : Addr) (h₀ : Heap) (s₀ : Shared) : Value → Shared → Prop := fun v s' =>
  ∃ e c h' tk st, v = .ref e ∧ s' = { s₀ with heap := h', toks := tk } ∧ XS B l h₀ h' e c st ∧ (st = none ∨ st = some (rawInt L))

theorem EX.passesAt {M : Model} {A' A : Around} {s₀ : Shared} {env : Env} (hfr : A'.frames = some (env :: outer)) (hf : env.frame = some L) : PassesOwnAt M A' A env (EX B (env :: outer) L h₀ s₀) := by
  rintro v s' ⟨e, c, h', tk, st, rfl, rfl, x, hst⟩
  unfold notedBy
  have go : ∀ h₁, XS B (env :: outer) h₀ h₁ e c (some (rawInt L)) → cameBackBy M A env (EX B (env :: outer) L h₀ s₀) (.ref e) { s₀ with heap := h₁, toks := tk } := fun h₁ x₁ =>
    XS.back (s := { s₀ with heap := h₁, toks := tk }) x₁ hf fun h₂ x₂ => ⟨e, c, h₂, tk, _, rfl, rfl, x₂, .inr rfl⟩
  rcases hst with rfl | rfl
  · exact XS.noteFirst (s := { s₀ with heap := h', toks := tk }) x hfr hf fun h₁ x₁ => go h₁ x₁
  · exact XS.noteAgain (s := { s₀ with heap := h', toks := tk }) x hf (go _ x)
theorem EX.passes {M : Model} {A : Around} {s₀ : Shared} {env : Env} (hfr : A.frames = some (env :: outer)) (hf : env.frame = some L) : PassesOwn M A env (EX B (env :: outer) L h₀ s₀) := EX.passesAt (A' := A) hfr hf

theorem caughtEX {s₀ : Shared} {news : List (Addr × Obj)} {v : Value} (Bl : Below A base outer g) (F : Fr g L h₀ m) (N : News g L h₀ news) (XB : K.In base) (TB : Top p loose mean mg mb base)
    (x : EX (hideAll h₀ ((envOf name scope L a cd :: outer).filterMap (·.frame))) (envOf name scope L a cd :: outer) L h₀ s₀ v s)
    (hno : nsIn K mainGlobals (Str.ofString "IndexError") = some none)
    (k : ∀ h' g' e tk, KtsTurn (outer.filterMap (·.frame)) g g' → Fr g' L h' m → News g' L h' news → Below A base outer g' →
      wpAny (model prog w) ((A.deeper (envOf name scope L a cd)).mark (some (.ref e))) (execs (b₀ :: suite) (envOf name scope L a cd)) Q (fun _ _ => False) { s₀ with heap := h', toks := tk })
    (hk : scope.kind = .function) (hx : (envOf name scope L a cd).kindOf (Str.ofString "IndexError") = some .globalImplicit) :
    wpAny (model prog w) (A.deeper (envOf name scope L a cd)) (noteFrame v (envOf name scope L a cd))
      (fun _ s₂ => wpAny (model prog w) (A.deeper (envOf name scope L a cd)) (setFlight v none) (fun _ s₃ =>
        wpAny (model prog w) (A.deeper (envOf name scope L a cd)) (handleBy v (envOf name scope L a cd) [.ExceptHandler (some (.Name (Str.ofString "IndexError") np)) none (b₀ :: suite) pos]) Q E s₃) E s₂) E s := by
  obtain ⟨e, c, h', tk, st, rfl, rfl, xs, hst⟩ := x
  refine caughtX (s := { s₀ with heap := h', toks := tk }) Bl F XB TB (fun b o hb hn => hideAll_get _ hb hn) xs hst hno (fun h₂ g₂ T₂ F₂ B₂ st₂ => ?_) hk hx
  exact k h₂ g₂ e tk T₂ F₂ (news_after Bl N T₂ st₂) B₂
end
end Mine
end
section
open PySem PySem.W PySem.Calls PyProof.Rows
set_option Elab.async false
set_option maxRecDepth 100000
namespace Mine
theorem upd_split {c : Addr} {o o' : Obj} : ∀ {own rest : List (Addr × Obj)}, (∀ p ∈ own, p.1 ≠ c) → (∀ p ∈ rest, p.1 ≠ c) → Upd c o o' (own ++ (c, o) :: rest) (own ++ (c, o') :: rest)
  | [], _, _, h2 => .head h2
  | p :: own, rest, h1, h2 => .tail (h1 p (.head _)) (upd_split (fun q hq => h1 q (.tail _ hq)) h2)
theorem upd_of {c : Addr} {o : Obj} {news : List (Addr × Obj)} {g : Obj → List (Addr × Obj)} (U : UpdF c o news g) (o' : Obj) : Upd c o o' news (g o') := by
  obtain ⟨own, rest, rfl, hg, h1, h2⟩ := U.split
  rw [hg]
  exact upd_split h1 h2
section
variable {prog : Program} {w : World} {A : Around} {E : Value → Shared → Prop} {s : Shared} {h₀ : Heap} {L : Addr} {m : Str → Option Value} {news : List (Addr × Obj)}
theorem extendL {b D : Addr} {vs us : List Value} {n n2 : Nat} {g : Obj → List (Addr × Obj)} {Q : Value → Shared → Prop} (F : Fr h₀ L s.heap m) (N : News h₀ L s.heap news) (hb : (b, W.listOf us.toArray n2) ∈ news)
    (U : UpdF D (W.listOf vs.toArray n) news g) (hsz : vs.length + us.length ≤ 100000)
    (h : ∀ h' n', Fr h₀ L h' m → News h₀ L h' (g (W.listOf (vs ++ us).toArray n')) → Q .none { s with heap := h' }) : wpAny (model prog w) A (call (.builtin "list.extend") [.ref D, .ref b]) Q E s := by
  have hlong : ¬(!vs.toArray.isEmpty && Builtin.List.listTooLong (vs.toArray.size + us.toArray.size)) = true := by
    have : Builtin.List.listTooLong (vs.toArray.size + us.toArray.size) = false := by
      unfold Builtin.List.listTooLong
      simp only [List.size_toArray]
      have hz : sizeLine = 16777216 := rfl
      exact decide_eq_false (by omega)
    rw [this, Bool.and_false]; exact Bool.false_ne_true
  have hs1 : vs.toArray.toList.length ≤ sizeLine := by simp only [sizeLine]; omega
  have hs2 : vs.toArray.size + us.toArray.size ≤ sizeLine + 1 := by simp only [List.size_toArray, sizeLine]; omega
  cases us with
  | nil =>
    refine kxn_extend F N hb rfl (upd_of U _) hlong hs1 hs2 fun h' F' N' => h h' n F' ?_
    rw [List.append_nil]; exact N'
  | cons u us =>
    exact kl_extend F N hb rfl (by simp) (upd_of U _) hlong hs1 hs2 fun h' F' N' => h h' (n + 1) F' N'
end
end Mine
end
section
open PySem PySem.W PySem.Calls PyProof.Rows
set_option Elab.async false
set_option maxRecDepth 100000
namespace Mine
section
variable {prog : Program} {w : World} {A : Around} {E : Value → Shared → Prop} {s s₀ : Shared} {env : Env} {outer : List Env} {L : Addr} {B h₀ : Heap}
noncomputable def EXn (B : Heap) (l : List Env) (L : Addr) (h₀ : Heap) (s₀ : Shared) : Value → Shared → Prop := fun v s' =>
  ∃ e h' tk st, v = .ref e ∧ s' = { s₀ with heap := h', toks := tk } ∧ XS B l h₀ h' e .none st ∧ (st = none ∨ st = some (rawInt L))
theorem EXn.passes {M : Model} {A : Around} {s₀ : Shared} {env : Env} (hfr : A.frames = some (env :: outer)) (hf : env.frame = some L) : PassesOwn M A env (EXn B (env :: outer) L h₀ s₀) := by
  rintro v s' ⟨e, h', tk, st, rfl, rfl, x, hst⟩
  unfold notedBy
  have go : ∀ h₁, XS B (env :: outer) h₀ h₁ e .none (some (rawInt L)) → cameBackBy M A env (EXn B (env :: outer) L h₀ s₀) (.ref e) { s₀ with heap := h₁, toks := tk } := fun h₁ x₁ =>
    XS.back (s := { s₀ with heap := h₁, toks := tk }) x₁ hf fun h₂ x₂ => ⟨e, h₂, tk, _, rfl, rfl, x₂, .inr rfl⟩
  rcases hst with rfl | rfl
  · exact XS.noteFirst (s := { s₀ with heap := h', toks := tk }) x hfr hf fun h₁ x₁ => go h₁ x₁
  · exact XS.noteAgain (s := { s₀ with heap := h', toks := tk }) x hf (go _ x)

theorem fin_raised {final : List Stmt} {Q : Flow → Shared → Prop} {v : Value} (hfr : A.frames = some (env :: outer)) (hf : env.frame = some L) (x : EXn B (env :: outer) L h₀ s₀ v s)
    (k : ∀ e h' tk, XS B (env :: outer) h₀ h' e .none (some .none) → wpAny (model prog w) (A.mark (some (.ref e))) (execs final env)
      (fun g s₂ => match g with | .next => wpAny (model prog w) A (PySem.passOn "try.finally" (.ref e) env) Q E s₂ | g => wpAny (model prog w) A (setFlight (.ref e) none) (fun _ s₃ => Q g s₃) E s₂)
      (notedBy (model prog w) (A.mark (some (.ref e))) env (cameBackBy (model prog w) A env E)) { s₀ with heap := h', toks := tk }) :
    wpAny (model prog w) A (noteFrame v env) (fun _ s₂ => FinallyRaised prog w A E env final Q v s₂) (FinallyRaised prog w A E env final Q) s := by
  obtain ⟨e, h', tk, st, rfl, rfl, xs, hst⟩ := x
  have go : ∀ h₁, XS B (env :: outer) h₀ h₁ e .none (some (rawInt L)) → FinallyRaised prog w A E env final Q (.ref e) { s₀ with heap := h₁, toks := tk } := fun h₁ x₁ =>
    ⟨ref_ne_byPass e, XS.noteAgain (s := { s₀ with heap := h₁, toks := tk }) x₁ hf (XS.fly (s := { s₀ with heap := h₁, toks := tk }) x₁ fun h₂ x₂ => k e h₂ tk x₂)⟩
  rcases hst with rfl | rfl
  · exact XS.noteFirst (s := { s₀ with heap := h', toks := tk }) xs hfr hf fun h₁ x₁ => go h₁ x₁
  · exact XS.noteAgain (s := { s₀ with heap := h', toks := tk }) xs hf (go _ xs)
theorem tryfin {body : List Stmt} {f₀ : Stmt} {fs : List Stmt} {pos : Pos} {Q : Flow → Shared → Prop} {g h₀ : Heap} {m : Str → Option Value} (_F : Fr g L h₀ m) (hfr : A.frames = some (env :: outer)) (hf : env.frame = some L)
    (h : wpAny (model prog w) A (execs body env) (fun _ _ => False) (EXn (hideAll h₀ ((env :: outer).filterMap (·.frame))) (env :: outer) L h₀ s₀) s)
    (k : ∀ e h' tk, XS (hideAll h₀ ((env :: outer).filterMap (·.frame))) (env :: outer) h₀ h' e .none (some .none) → wpAny (model prog w) (A.mark (some (.ref e))) (execs (f₀ :: fs) env)
      (fun g s₂ => match g with | .next => wpAny (model prog w) A (PySem.passOn "try.finally" (.ref e) env) Q E s₂ | g => wpAny (model prog w) A (setFlight (.ref e) none) (fun _ s₃ => Q g s₃) E s₂)
      (notedBy (model prog w) (A.mark (some (.ref e))) env (cameBackBy (model prog w) A env E)) { s₀ with heap := h', toks := tk }) :
    wpAny (model prog w) A (exec (.Try body [] [] (f₀ :: fs) pos) env) Q E s :=
  wpAny_Try_finally (wpAny_mono h (fun _ _ q => q.elim) fun v s' x => fin_raised hfr hf x k)
end

section
variable {A : Around} {base g h₀ B h' : Heap} {outer : List Env} {L a e : Addr} {m : Str → Option Value} {name : Str} {scope : Scope} {cd c fl : Value} {news : List (Addr × Obj)}
theorem XS.led (Bl : Below A base outer g) (F : Fr g L h₀ m) (N : News g L h₀ news) (x : XS (hideAll h₀ ((envOf name scope L a cd :: outer).filterMap (·.frame))) (envOf name scope L a cd :: outer) h₀ h' e c (some fl)) :
    ∃ g' ob T oT t ts, KtsTurn (outer.filterMap (·.frame)) g g' ∧ Fr g' L h' m ∧ Below A base outer g' ∧ News g' L h' ((e, ob) :: (T, oT) :: news) ∧ ob.cls = .type "IndexError" ∧ ob.data = .fields #[t, .ref T, c, .none, .bool false, .none] ∧
      T ≠ e ∧ oT.data = .fields ts ∧ ts[3]? = some fl := by
  obtain ⟨g', T', F', B'⟩ := kts_ground Bl F (fun b o hb hn => hideAll_get _ hb hn) x.stays x.slots
  have N' := news_after Bl N T' x.stays
  obtain ⟨ob, t, he, hcls, T, oT, ts, hd, hT, hTe, hoT, hdT, h3⟩ := x.at_
  have up : ∀ b, (hideAll h₀ ((envOf name scope L a cd :: outer).filterMap (·.frame))).get? b = none → (∃ o vs, h'.get? b = some o ∧ o.data = .fields vs) → b ≠ L ∧ g'.get? b = none := by
    intro b hb ⟨o, vs, ho, hod⟩
    constructor
    · rintro rfl
      obtain ⟨o2, es, n, ho2, hd2, _⟩ := F'.ns
      rw [ho] at ho2; cases ho2; rw [hod] at hd2; cases hd2
    · cases q : g'.get? b with
      | none => rfl
      | some o' =>
        by_cases hm : b ∈ outer.filterMap (·.frame)
        · obtain ⟨_, o3, ho3, hnf⟩ := B'.frames.mem hm
          have := F'.keep _ _ ho3
          rw [ho] at this; cases this
          exact absurd hod (hnf vs)
        · have hg : ∃ o4, g.get? b = some o4 := by
            cases q2 : g.get? b with
            | none => rw [T'.none_ _ q2] at q; cases q
            | some o4 => exact ⟨o4, rfl⟩
          obtain ⟨o4, hg⟩ := hg
          have h4 := F.keep _ _ hg
          have : (hideAll h₀ ((envOf name scope L a cd :: outer).filterMap (·.frame))).get? b = some o4 := hideAll_get _ h4 fun hm2 => by
            rcases kts_mem hm2 with z | z
            · subst z
              rw [kts_self F] at hg; cases hg
            · exact hm z
          rw [hb] at this; cases this
  have u1 := up e x.fresh ⟨ob, _, he, hd⟩
  have u2 := up T hT ⟨oT, _, hoT, hdT⟩
  refine ⟨g', ob, T, oT, t, ts, T', F', B', ?_, hcls, hd, hTe, hdT, h3⟩
  intro q hq
  rcases List.mem_cons.mp hq with rfl | hq
  · exact ⟨he, u1.1, u1.2⟩
  · rcases List.mem_cons.mp hq with rfl | hq
    · exact ⟨hoT, u2.1, u2.2⟩
    · exact N' q hq

theorem XS.unled {ob oT : Obj} {T : Addr} {t : Value} {ts : Array Value} (Bl : Below A base outer g) (F : Fr g L h' m) (N : News g L h' ((e, ob) :: (T, oT) :: news)) (hk : scope.kind = .function)
    (hcls : ob.cls = .type "IndexError") (hd : ob.data = .fields #[t, .ref T, c, .none, .bool false, .none]) (hTe : T ≠ e) (hdT : oT.data = .fields ts) (h3 : ts[3]? = some fl)
    (hn1 : ∀ q ∈ news, q.1 ≠ e) (hn2 : ∀ q ∈ news, q.1 ≠ T) :
    Fr g L (hideAll h' [e, T]) m ∧ News g L (hideAll h' [e, T]) news ∧
    XS (hideAll (hideAll h' [e, T]) ((envOf name scope L a cd :: outer).filterMap (·.frame))) (envOf name scope L a cd :: outer) (hideAll h' [e, T]) h' e c (some fl) := by
  have e1 := N (e, ob) (.head _)
  have e2 := N (T, oT) (.tail _ (.head _))
  have ne : ∀ b, b ≠ e → b ≠ T → b ∉ [e, T] := fun b h1 h2 hm => by
    rcases List.mem_cons.mp hm with z | hm
    · exact h1 z
    · exact h2 (List.mem_singleton.mp hm)
  have K' := Bl.push (name := name) (a := a) (cd := cd) F hk
  have hin : ∀ env ∈ (envOf name scope L a cd :: outer), ∀ b, env.frame = some b → b ∈ (envOf name scope L a cd :: outer).filterMap (·.frame) := fun env he b hb => List.mem_filterMap.mpr ⟨env, he, hb⟩
  refine ⟨⟨?_, fun b o hb => hideAll_get _ (F.keep b o hb) (ne b (fun z => ?_) fun z => ?_), Nat.le_trans F.above (Nat.le_refl _)⟩, fun q hq => ?_, ⟨fun b o hb => of_hideAll _ (of_hideAll _ hb), ?_, ?_, .of_keeps fun b o hb => of_hideAll _ hb, ?_⟩⟩
  · obtain ⟨o, es, n, ho, r⟩ := F.ns
    exact ⟨o, es, n, hideAll_get _ ho (ne _ (Ne.symm e1.2.1) (Ne.symm e2.2.1)), r⟩
  · rw [z, e1.2.2] at hb; cases hb
  · rw [z, e2.2.2] at hb; cases hb
  · have nq := N q (.tail _ (.tail _ hq))
    exact ⟨hideAll_get _ nq.1 (ne _ (hn1 q hq) (hn2 q hq)), nq.2⟩
  · have : ∀ {l : List Env}, h'.FunFrames base l → (∀ env ∈ l, ∀ b, env.frame = some b → b ∈ (envOf name scope L a cd :: outer).filterMap (·.frame)) → h'.FunFrames (hideAll (hideAll h' [e, T]) ((envOf name scope L a cd :: outer).filterMap (·.frame))) l := by
      intro l
      induction l with
      | nil => intro _ _; trivial
      | cons env r ih =>
        rintro ⟨hk, ⟨L', o, hf, _, ho, hd⟩, hr⟩ hin
        exact ⟨hk, ⟨L', o, hf, hideAll_none _ (hin env (.head _) L' hf), ho, hd⟩, ih hr fun e he => hin e (.tail _ he)⟩
    exact this K'.frames hin
  · cases q : (hideAll (hideAll h' [e, T]) ((envOf name scope L a cd :: outer).filterMap (·.frame))).get? e with
    | none => rfl
    | some o => have := of_hideAll _ q; rw [hideAll_none [e, T] (.head _)] at this; cases this
  · refine ⟨ob, t, e1.1, hcls, T, oT, ts, hd, ?_, hTe, e2.1, hdT, h3⟩
    cases q : (hideAll (hideAll h' [e, T]) ((envOf name scope L a cd :: outer).filterMap (·.frame))).get? T with
    | none => rfl
    | some o => have := of_hideAll _ q; rw [hideAll_none [e, T] (.tail _ (.head _))] at this; cases this

theorem XS.flyOn {M : Model} {A' : Around} {E : Value → Shared → Prop} {s : Shared} {α : Type} {Q : α → Shared → Prop} {what : String} {ob oT : Obj} {T : Addr} {t : Value} {ts : Array Value} (Bl : Below A base outer g) (F : Fr g L s.heap m) (N : News g L s.heap ((e, ob) :: (T, oT) :: news)) (hk : scope.kind = .function)
    (hcls : ob.cls = .type "IndexError") (hd : ob.data = .fields #[t, .ref T, c, .none, .bool false, .none]) (hTe : T ≠ e) (hdT : oT.data = .fields ts) (h3 : ts[3]? = some fl)
    (hn1 : ∀ q ∈ news, q.1 ≠ e) (hn2 : ∀ q ∈ news, q.1 ≠ T)
    (k : Fr g L (hideAll s.heap [e, T]) m → News g L (hideAll s.heap [e, T]) news → ∀ h'', XS (hideAll (hideAll s.heap [e, T]) ((envOf name scope L a cd :: outer).filterMap (·.frame))) (envOf name scope L a cd :: outer) (hideAll s.heap [e, T]) h'' e c (some (rawInt L)) → E (.ref e) { s with heap := h'' }) :
    wpAny M A' (PySem.passOn what (.ref e) (envOf name scope L a cd)) Q E s := by
  obtain ⟨Fu, Nu, Xu⟩ := XS.unled (name := name) (scope := scope) (a := a) (cd := cd) Bl F N hk hcls hd hTe hdT h3 hn1 hn2
  exact XS.on Xu rfl fun h₆ x₆ => k Fu Nu h₆ x₆
end
end Mine
end
section
open PySem PySem.W PySem.Calls PyProof.Rows
set_option Elab.async false
set_option maxRecDepth 100000
set_option maxHeartbeats 4000000
namespace Mine

noncomputable def sdiff : List Int → List Int → List Int × List Int
  | [], ys => ([], ys)
  | x :: xs, [] => (x :: xs, [])
  | x :: xs, y :: ys => if x < y then (x :: (sdiff xs (y :: ys)).1, (sdiff xs (y :: ys)).2) else if y < x then ((sdiff (x :: xs) ys).1, y :: (sdiff (x :: xs) ys).2) else sdiff xs ys
termination_by xs ys => xs.length + ys.length

noncomputable abbrev LMs (i j : Int) (ti tj : Tok) (lm lu x y : Addr) (r : Str → Option Value) : Str → Option Value := fun n =>
  if n = Str.ofString "i" then some (.int i ti) else if n = Str.ofString "j" then some (.int j tj) else if n = Str.ofString "missing" then some (.ref lm) else if n = Str.ofString "unexpected" then some (.ref lu)
  else if n = Str.ofString "expected" then some (.ref x) else if n = Str.ofString "actual" then some (.ref y) else r n

theorem sdiff_end {xs ys : List Int} (h : xs = [] ∨ ys = []) : sdiff xs ys = (xs, ys) := by
  rcases h with rfl | rfl
  · unfold sdiff; rfl
  · cases xs with
    | nil => unfold sdiff; rfl
    | cons x xs => unfold sdiff; rfl

theorem drop_cons {xs : List Int} {i : Nat} (h : i < xs.length) : xs.drop i = xs.getD i 0 :: xs.drop (i + 1) := by
  rw [List.drop_eq_getElem_cons h, List.getD_eq_getElem?_getD, List.getElem?_eq_getElem h]; rfl
theorem sd_lt {xs ys : List Int} {i j : Nat} (hi : i < xs.length) (hj : j < ys.length) (h : xs.getD i 0 < ys.getD j 0) :
    sdiff (xs.drop i) (ys.drop j) = (xs.getD i 0 :: (sdiff (xs.drop (i + 1)) (ys.drop j)).1, (sdiff (xs.drop (i + 1)) (ys.drop j)).2) := by
  rw [drop_cons hi, drop_cons hj]
  conv => lhs; unfold sdiff
  rw [if_pos h]
theorem sd_gt {xs ys : List Int} {i j : Nat} (hi : i < xs.length) (hj : j < ys.length) (h : ys.getD j 0 < xs.getD i 0) :
    sdiff (xs.drop i) (ys.drop j) = ((sdiff (xs.drop i) (ys.drop (j + 1))).1, ys.getD j 0 :: (sdiff (xs.drop i) (ys.drop (j + 1))).2) := by
  rw [drop_cons hi, drop_cons hj]
  conv => lhs; unfold sdiff
  rw [if_neg (by omega), if_pos h]
theorem sd_eq {xs ys : List Int} {i j : Nat} (hi : i < xs.length) (hj : j < ys.length) (h1 : ¬ xs.getD i 0 < ys.getD j 0) (h2 : ¬ ys.getD j 0 < xs.getD i 0) :
    sdiff (xs.drop i) (ys.drop j) = sdiff (xs.drop (i + 1)) (ys.drop (j + 1)) := by
  rw [drop_cons hi, drop_cons hj]
  conv => lhs; unfold sdiff
  rw [if_neg h1, if_neg h2]
theorem st_lt {xs ys Mi Ui : List Int} {X : List Int × List Int} {i j : Int} (hi0 : 0 ≤ i) (hi : i < xs.length) (hj0 : 0 ≤ j) (hj : j < ys.length) (h : xs.getD i.toNat 0 < ys.getD j.toNat 0)
    (c1 : Mi ++ (sdiff (xs.drop i.toNat) (ys.drop j.toNat)).1 = X.1) (c2 : Ui ++ (sdiff (xs.drop i.toNat) (ys.drop j.toNat)).2 = X.2) :
    (Mi ++ [xs.getD i.toNat 0]) ++ (sdiff (xs.drop (i + 1).toNat) (ys.drop j.toNat)).1 = X.1 ∧ Ui ++ (sdiff (xs.drop (i + 1).toNat) (ys.drop j.toNat)).2 = X.2 := by
  have e : (i + 1).toNat = i.toNat + 1 := by omega
  rw [sd_lt (by omega) (by omega) h] at c1 c2
  rw [e]
  exact ⟨by rw [List.append_assoc]; exact c1, c2⟩
theorem st_gt {xs ys Mi Ui : List Int} {X : List Int × List Int} {i j : Int} (hi0 : 0 ≤ i) (hi : i < xs.length) (hj0 : 0 ≤ j) (hj : j < ys.length) (h : ys.getD j.toNat 0 < xs.getD i.toNat 0)
    (c1 : Mi ++ (sdiff (xs.drop i.toNat) (ys.drop j.toNat)).1 = X.1) (c2 : Ui ++ (sdiff (xs.drop i.toNat) (ys.drop j.toNat)).2 = X.2) :
    Mi ++ (sdiff (xs.drop i.toNat) (ys.drop (j + 1).toNat)).1 = X.1 ∧ (Ui ++ [ys.getD j.toNat 0]) ++ (sdiff (xs.drop i.toNat) (ys.drop (j + 1).toNat)).2 = X.2 := by
  have e : (j + 1).toNat = j.toNat + 1 := by omega
  rw [sd_gt (by omega) (by omega) h] at c1 c2
  rw [e]
  exact ⟨c1, by rw [List.append_assoc]; exact c2⟩
theorem st_eq {xs ys Mi Ui : List Int} {X : List Int × List Int} {i j : Int} (hi0 : 0 ≤ i) (hi : i < xs.length) (hj0 : 0 ≤ j) (hj : j < ys.length) (h1 : ¬ xs.getD i.toNat 0 < ys.getD j.toNat 0) (h2 : ¬ ys.getD j.toNat 0 < xs.getD i.toNat 0)
    (c1 : Mi ++ (sdiff (xs.drop i.toNat) (ys.drop j.toNat)).1 = X.1) (c2 : Ui ++ (sdiff (xs.drop i.toNat) (ys.drop j.toNat)).2 = X.2) :
    Mi ++ (sdiff (xs.drop (i + 1).toNat) (ys.drop (j + 1).toNat)).1 = X.1 ∧ Ui ++ (sdiff (xs.drop (i + 1).toNat) (ys.drop (j + 1).toNat)).2 = X.2 := by
  have e : (j + 1).toNat = j.toNat + 1 := by omega
  have e' : (i + 1).toNat = i.toNat + 1 := by omega
  rw [sd_eq (by omega) (by omega) h1 h2] at c1 c2
  rw [e, e']
  exact ⟨c1, c2⟩
theorem inner_no {xs : List Int} (s : xs.Pairwise (· < ·)) {i : Int} (h0 : 0 ≤ i) (h : i + 1 < xs.length) : (xs.getD (i + 1).toNat 0 == xs.getD i.toNat 0) = false := by
  have e' : (i + 1).toNat = i.toNat + 1 := by omega
  have : xs.getD i.toNat 0 < xs.getD (i.toNat + 1) 0 := by
    have h0 : i.toNat < xs.length := by omega
    have h1 : i.toNat + 1 < xs.length := by omega
    rw [List.getD_eq_getElem?_getD, List.getD_eq_getElem?_getD, List.getElem?_eq_getElem h0, List.getElem?_eq_getElem h1]
    exact List.pairwise_iff_getElem.mp s i.toNat (i.toNat + 1) h0 h1 (Nat.lt_succ_self _)
  rw [e']
  simp only [beq_eq_false_iff_ne]
  omega
theorem sorted_next {xs : List Int} (s : xs.Pairwise (· < ·)) {i : Nat} (h : i + 1 < xs.length) : xs.getD i 0 < xs.getD (i + 1) 0 := by
  have h0 : i < xs.length := by omega
  rw [List.getD_eq_getElem?_getD, List.getD_eq_getElem?_getD, List.getElem?_eq_getElem h0, List.getElem?_eq_getElem h]
  exact List.pairwise_iff_getElem.mp s i (i + 1) h0 h (Nat.lt_succ_self i)

theorem Fr.lms {g h : Heap} {L : Addr} {m : Str → Option Value} {i j : Int} {ti tj : Tok} {lm lu x y : Addr} (F : Fr g L h m) (h1 : m (Str.ofString "i") = some (.int i ti)) (h2 : m (Str.ofString "j") = some (.int j tj)) (h3 : m (Str.ofString "missing") = some (.ref lm))
    (h4 : m (Str.ofString "unexpected") = some (.ref lu)) (h5 : m (Str.ofString "expected") = some (.ref x)) (h6 : m (Str.ofString "actual") = some (.ref y)) : Fr g L h (LMs i j ti tj lm lu x y m) := by
  have e : m = LMs i j ti tj lm lu x y m := by
    funext n
    unfold LMs
    repeat' split
    all_goals first | (subst_vars; assumption) | rfl
  exact e ▸ F

structure SS where
  i : Int
  j : Int
  ti : Tok
  tj : Tok
  Mv : List Value
  Uv : List Value
  Mi : List Int
  Ui : List Int
  nm : Nat
  nu : Nat
  h : Heap
  r : Str → Option Value

structure SS.Ok (σ : SS) (g : Heap) (L' l1 l2 x y : Addr) (xs ys : List Int) : Prop where
  F : Fr g L' σ.h (LMs σ.i σ.j σ.ti σ.tj l1 l2 x y σ.r)
  N : News g L' σ.h [(l2, W.listOf σ.Uv.toArray σ.nu), (l1, W.listOf σ.Mv.toArray σ.nm)]
  hM : IntsAre σ.Mv σ.Mi
  hU : IntsAre σ.Uv σ.Ui
  i0 : 0 ≤ σ.i
  i1 : σ.i ≤ xs.length
  j0 : 0 ≤ σ.j
  j1 : σ.j ≤ ys.length
  ml : σ.Mi.length ≤ σ.i
  ul : σ.Ui.length ≤ σ.j
  c1 : σ.Mi ++ (sdiff (xs.drop σ.i.toNat) (ys.drop σ.j.toNat)).1 = (sdiff xs ys).1
  c2 : σ.Ui ++ (sdiff (xs.drop σ.i.toNat) (ys.drop σ.j.toNat)).2 = (sdiff xs ys).2

theorem passes_ex {M : Model} {A' A : Around} {env : Env} {ι : Type} {P : ι → Prop} {F : ι → Value → Shared → Prop} (h : ∀ i, PassesOwnAt M A' A env (F i)) : PassesOwnAt M A' A env (fun v s => ∃ i, P i ∧ F i v s) := by
  rintro v s ⟨i, hp, hf⟩
  have := h i v s hf
  unfold notedBy at this ⊢
  have cb : ∀ v s, cameBackBy M A env (F i) v s → cameBackBy M A env (fun v s => ∃ i, P i ∧ F i v s) v s := by
    intro v s hc
    unfold cameBackBy at hc ⊢
    exact wpAny_mono hc (fun _ _ z => ⟨i, hp, z⟩) (fun _ _ z => ⟨i, hp, z⟩)
  exact wpAny_mono this (fun _ _ z => cb _ _ z) (fun _ _ z => cb _ _ z)

noncomputable def EXS (env : Env) (outer : List Env) (L : Addr) (s₀ : Shared) (P : SS → Prop) : Value → Shared → Prop := fun v s' =>
  ∃ σ : SS, P σ ∧ EX (hideAll σ.h ((env :: outer).filterMap (·.frame))) (env :: outer) L σ.h s₀ v s'
theorem EXS.passesAt {M : Model} {A' A : Around} {env : Env} {outer : List Env} {L : Addr} {s₀ : Shared} {P : SS → Prop} (hfr : A'.frames = some (env :: outer)) (hf : env.frame = some L) : PassesOwnAt M A' A env (EXS env outer L s₀ P) :=
  passes_ex fun _ => EX.passesAt hfr hf
theorem EXS.passes {M : Model} {A : Around} {env : Env} {outer : List Env} {L : Addr} {s₀ : Shared} {P : SS → Prop} (hfr : A.frames = some (env :: outer)) (hf : env.frame = some L) : PassesOwn M A env (EXS env outer L s₀ P) :=
  EXS.passesAt (A' := A) hfr hf

section
variable {prog : Program} {w : World} {A : Around} {E : Value → Shared → Prop} {s : Shared} {env : Env} {outer : List Env} {L : Addr} {s₀ : Shared}
theorem try_EXS {body : List Stmt} {h₀ : ExceptHandler} {hs : List ExceptHandler} {pos : Pos} {Q : Flow → Shared → Prop} (P : SS → Prop)
    (h : wpAny (model prog w) A (execs body env) (fun f s₁ => match f with | .next => wpAny (model prog w) A (execs [] env) Q E s₁ | f => Q f s₁) (EXS env outer L s₀ P) s)
    (he : ∀ e s₁, EXS env outer L s₀ P e s₁ → wpAny (model prog w) A (noteFrame e env) (fun _ s₂ => wpAny (model prog w) A (setFlight e none) (fun _ s₃ => wpAny (model prog w) A (handleBy e env (h₀ :: hs)) Q E s₃) E s₂) E s₁) :
    wpAny (model prog w) A (exec (.Try body (h₀ :: hs) [] [] pos) env) Q E s :=
  wpAny_Try_except (wpAny_mono h (fun _ _ q => q) he)
end

theorem IsList.turn {fs : List Addr} {g g' : Heap} {l : Addr} {items : Array Value} (T : KtsTurn fs g g') (x : g.IsList l items) : g'.IsList l items := by
  obtain ⟨o, ho, hc, n, hd⟩ := x
  obtain ⟨sl, hs⟩ := T.up ho
  exact ⟨_, hs, hc, n, hd⟩

theorem sld {w : World} {A : Around} {s : Shared} {base : Heap} {outer : List Env} {p : Program} {loose : List Str} {mean : ExcName → Option Value} {mg mb : Str → Option Value} {Q E : Value → Shared → Prop}
   {x y : Addr} {vs us : List Value} {xs ys : List Int}
   (B : Below A base outer s.heap) (XB : (KK w).In base) (TB : Top p loose mean mg mb base) (hA : A.handled = none) (hd : A.depth < recursionLimit) (hu : A.units + 20 < cLine)
   (hx : s.heap.IsList x vs.toArray) (hy : s.heap.IsList y us.toArray) (ix : IntsAre vs xs) (iy : IntsAre us ys) (lx : xs.length ≤ 100) (ly : ys.length ≤ 100) (sx : xs.Pairwise (· < ·)) (sy : ys.Pairwise (· < ·))
   (k : ∀ g' h' tk t a b va ub na nb, KtsTurn (outer.filterMap (·.frame)) s.heap g' → g'.StaysIn h' → h'.get? t = some { cls := .type "tuple", data := .seq #[.ref a, .ref b] } → h'.get? a = some (W.listOf va.toArray na) → h'.get? b = some (W.listOf ub.toArray nb) →
     IntsAre va (sdiff xs ys).1 → IntsAre ub (sdiff xs ys).2 → g'.get? t = none → g'.get? a = none → g'.get? b = none → Q (.ref t) { s with heap := h', toks := tk }) :
   wpAny (model PR w) A (call (.ref 21) [.ref x, .ref y]) Q E s := by
  unfold KK PR at *
  revert XB; k_fill; intro XB
  have X := XB.keeps B.stays
  have T := TB.keeps B.stays
  have hln := IntsAre.length ix
  have hln2 := IntsAre.length iy
  refine wpAny_call ?_
  k_dflt (refine' enter ?k3 ?k5 ?k6 ?k7 ?k8 ?k9 ?kB ?_ ?c5 ?c2 ?c3 ?c4; (case k3 => exact X); (case k5 => exact T.nolimit); (case k6 => k_is); (case k7 => k_is); (case k8 => assumption); (case k9 => exact BindsTo.of_eq rfl); (case c5 => decide); (case kB => exact locs rfl); (case c2 => exact rfl); (case c3 => exact rfl); (case c4 => exact rfl); k_whole; intro L' h' F' N'; (try dsimp only))
  iterate 23 (first | (k_unfold; (try dsimp only)) | walk1 | (dsimp only; walk1))
  rename_i tka ha hb l1 hc lt1 hdd tkb l2 he lt2 hf F N
  refine while_inv (fun n s' => ∃ (σ : SS) (tk : Nat), s' = { s with heap := σ.h, toks := tk } ∧ σ.Ok s.heap L' l1 l2 x y xs ys ∧ n = (xs.length - σ.i.toNat) + (ys.length - σ.j.toNat)) PassesOwn.never ?_ (xs.length + ys.length) ?_
  · clear F N
    rintro n s' ⟨⟨i, j, ti, tj, Mv, Uv, Mi, Ui, nm, nu, h, r⟩, tk, rfl, ⟨F, N, hMi, hUi, hi0, hi, hj0, hj, hml, hul, hc1, hc2⟩, hn⟩
    dsimp only at F N hMi hUi hi0 hi hj0 hj hml hul hc1 hc2 hn
    iterate 5 (first | (k_unfold; (try dsimp only)) | walk1 | (dsimp only; walk1))
    refine try_EXS (outer := outer) (L := L') (s₀ := s) (fun σ => ∃ g, KtsTurn (outer.filterMap (·.frame)) s.heap g ∧ Below A base outer g ∧ σ.Ok g L' l1 l2 x y xs ys ∧ (σ.i = xs.length ∨ σ.j = ys.length)) ?_ ?_
    · by_cases hi1 : i < xs.length
      · by_cases hj1 : j < ys.length
        · repeat ((fail_if_success (with_reducible show ite _ _ _)); (first | (k_unfold; (try dsimp only)) | walk1 | (dsimp only; walk1)))
          by_cases hea : xs.getD i.toNat 0 < ys.getD j.toNat 0
          · rw [if_pos (decide_eq_true hea)]
            repeat ((fail_if_success (with_reducible show wpAny _ _ (exec (Stmt.While _ _ _ _) _) _ _ _)); (first | (k_unfold; (try dsimp only)) | walk1 | (dsimp only; walk1)))
            refine whl_start 0 (whl_turn (k := 0) (EXS.passes (Around.frames_deeper B.stack) rfl) ?_)
            by_cases hi2 : i + 1 < xs.length
            · repeat (first | (k_unfold; (try dsimp only)) | walk1 | (dsimp only; walk1))
              refine WhlIf.no (inner_no sx hi0 hi2) ?_
              repeat (first | (k_unfold; (try dsimp only)) | walk1 | (dsimp only; walk1))
              rename Fr _ _ _ _ => Fz
              rename News _ _ _ _ => Nz
              try simp only [List.push_toArray] at Nz
              obtain ⟨cc1, cc2⟩ := st_lt hi0 hi1 hj0 hj1 hea hc1 hc2
              exact ⟨(xs.length - (i + 1).toNat) + (ys.length - (j).toNat), by omega, ⟨i + 1, j, _, _, Mv ++ [_], Uv, Mi ++ [xs.getD i.toNat 0], Ui, _, _, _, _⟩, _, rfl, ⟨Fr.lms Fz rfl rfl rfl rfl rfl rfl, Nz, hMi.append (.cons _ _ .nil), hUi, by dsimp only; omega, by dsimp only; omega, by dsimp only; omega, by dsimp only; omega, by dsimp only; (try simp only [List.length_append, List.length_cons, List.length_nil]); omega, by dsimp only; (try simp only [List.length_append, List.length_cons, List.length_nil]); omega, cc1, cc2⟩, rfl⟩
            · repeat ((fail_if_success (with_reducible show wpAny _ _ (subscriptTail _ _ (Value.ref x) _) _ _ _)); (first | (k_unfold; (try dsimp only)) | walk1 | (dsimp only; walk1)))
              rename Fr _ _ _ _ => Fz
              rename News _ _ _ _ => Nz
              try simp only [List.push_toArray] at Nz
              obtain ⟨cc1, cc2⟩ := st_lt hi0 hi1 hj0 hj1 hea hc1 hc2
              refine item_out hA (Fz.lst hx) (by rw [List.size_toArray, hln]; omega) (by omega) fun h₁ tk₁ e nx => ?_
              exact ⟨⟨i + 1, j, _, _, Mv ++ [_], Uv, Mi ++ [xs.getD i.toNat 0], Ui, _, _, _, _⟩, ⟨s.heap, KtsTurn.refl, B, ⟨Fr.lms Fz rfl rfl rfl rfl rfl rfl, Nz, hMi.append (.cons _ _ .nil), hUi, by dsimp only; omega, by dsimp only; omega, by dsimp only; omega, by dsimp only; omega, by dsimp only; (try simp only [List.length_append, List.length_cons, List.length_nil]); omega, by dsimp only; (try simp only [List.length_append, List.length_cons, List.length_nil]); omega, cc1, cc2⟩, .inl (by dsimp only; omega)⟩, ⟨e, _, h₁, tk₁, none, rfl, rfl, XS.start B Fz nx rfl, .inl rfl⟩⟩
          · rw [if_neg (by rw [decide_eq_false hea]; exact Bool.false_ne_true)]
            repeat ((fail_if_success (with_reducible show ite _ _ _)); (first | (k_unfold; (try dsimp only)) | walk1 | (dsimp only; walk1)))
            by_cases hae : ys.getD j.toNat 0 < xs.getD i.toNat 0
            · rw [if_pos (decide_eq_true hae)]
              repeat ((fail_if_success (with_reducible show wpAny _ _ (exec (Stmt.While _ _ _ _) _) _ _ _)); (first | (k_unfold; (try dsimp only)) | walk1 | (dsimp only; walk1)))
              refine whl_start 0 (whl_turn (k := 0) (EXS.passes (Around.frames_deeper B.stack) rfl) ?_)
              by_cases hj2 : j + 1 < ys.length
              · repeat (first | (k_unfold; (try dsimp only)) | walk1 | (dsimp only; walk1))
                refine WhlIf.no (inner_no sy hj0 hj2) ?_
                repeat (first | (k_unfold; (try dsimp only)) | walk1 | (dsimp only; walk1))
                rename Fr _ _ _ _ => Fz
                rename News _ _ _ _ => Nz
                try simp only [List.push_toArray] at Nz
                obtain ⟨cc1, cc2⟩ := st_gt hi0 hi1 hj0 hj1 hae hc1 hc2
                exact ⟨(xs.length - (i).toNat) + (ys.length - (j + 1).toNat), by omega, ⟨i, j + 1, _, _, Mv, Uv ++ [_], Mi, Ui ++ [ys.getD j.toNat 0], _, _, _, _⟩, _, rfl, ⟨Fr.lms Fz rfl rfl rfl rfl rfl rfl, Nz, hMi, hUi.append (.cons _ _ .nil), by dsimp only; omega, by dsimp only; omega, by dsimp only; omega, by dsimp only; omega, by dsimp only; (try simp only [List.length_append, List.length_cons, List.length_nil]); omega, by dsimp only; (try simp only [List.length_append, List.length_cons, List.length_nil]); omega, cc1, cc2⟩, rfl⟩
              · repeat ((fail_if_success (with_reducible show wpAny _ _ (subscriptTail _ _ (Value.ref y) _) _ _ _)); (first | (k_unfold; (try dsimp only)) | walk1 | (dsimp only; walk1)))
                rename Fr _ _ _ _ => Fz
                rename News _ _ _ _ => Nz
                try simp only [List.push_toArray] at Nz
                obtain ⟨cc1, cc2⟩ := st_gt hi0 hi1 hj0 hj1 hae hc1 hc2
                refine item_out hA (Fz.lst hy) (by rw [List.size_toArray, hln2]; omega) (by omega) fun h₁ tk₁ e nx => ?_
                exact ⟨⟨i, j + 1, _, _, Mv, Uv ++ [_], Mi, Ui ++ [ys.getD j.toNat 0], _, _, _, _⟩, ⟨s.heap, KtsTurn.refl, B, ⟨Fr.lms Fz rfl rfl rfl rfl rfl rfl, Nz, hMi, hUi.append (.cons _ _ .nil), by dsimp only; omega, by dsimp only; omega, by dsimp only; omega, by dsimp only; omega, by dsimp only; (try simp only [List.length_append, List.length_cons, List.length_nil]); omega, by dsimp only; (try simp only [List.length_append, List.length_cons, List.length_nil]); omega, cc1, cc2⟩, .inr (by dsimp only; omega)⟩, ⟨e, _, h₁, tk₁, none, rfl, rfl, XS.start B Fz nx rfl, .inl rfl⟩⟩
            · rw [if_neg (by rw [decide_eq_false hae]; exact Bool.false_ne_true)]
              repeat ((fail_if_success (with_reducible show wpAny _ _ (exec (Stmt.Try _ _ _ _ _) _) _ _ _)); (first | (k_unfold; (try dsimp only)) | walk1 | (dsimp only; walk1)))
              obtain ⟨cc1, cc2⟩ := st_eq hi0 hi1 hj0 hj1 hea hae hc1 hc2
              by_cases hi2 : i + 1 < xs.length
              · refine wpAny_Try_finally ?_
                repeat ((fail_if_success (with_reducible show wpAny _ _ (exec (Stmt.While _ _ _ _) _) _ _ _)); (first | (k_unfold; (try dsimp only)) | walk1 | (dsimp only; walk1)))
                refine wpAny_noRaise (whl_start 0 (whl_turn (k := 0) PassesOwn.never ?_))
                repeat (first | (k_unfold; (try dsimp only)) | walk1 | (dsimp only; walk1))
                refine WhlIf.no (inner_no sx hi0 hi2) ?_
                repeat ((fail_if_success (with_reducible show wpAny _ _ (exec (Stmt.While _ _ _ _) _) _ _ _)); (first | (k_unfold; (try dsimp only)) | walk1 | (dsimp only; walk1)))
                refine wpAny_passesOwn (EXS.passes (Around.frames_deeper B.stack) rfl) ?_
                refine whl_start 0 (whl_turn (k := 0) (EXS.passes (Around.frames_deeper B.stack) rfl) ?_)
                by_cases hj2 : j + 1 < ys.length
                · repeat (first | (k_unfold; (try dsimp only)) | walk1 | (dsimp only; walk1))
                  refine WhlIf.no (inner_no sy hj0 hj2) ?_
                  repeat (first | (k_unfold; (try dsimp only)) | walk1 | (dsimp only; walk1))
                  rename Fr _ _ _ _ => Fz
                  rename News _ _ _ _ => Nz
                  exact ⟨(xs.length - (i + 1).toNat) + (ys.length - (j + 1).toNat), by omega, ⟨i + 1, j + 1, _, _, Mv, Uv, Mi, Ui, _, _, _, _⟩, _, rfl, ⟨Fr.lms Fz rfl rfl rfl rfl rfl rfl, Nz, hMi, hUi, by dsimp only; omega, by dsimp only; omega, by dsimp only; omega, by dsimp only; omega, by dsimp only; omega, by dsimp only; omega, cc1, cc2⟩, rfl⟩
                · repeat ((fail_if_success (with_reducible show wpAny _ _ (subscriptTail _ _ (Value.ref y) _) _ _ _)); (first | (k_unfold; (try dsimp only)) | walk1 | (dsimp only; walk1)))
                  rename Fr _ _ _ _ => Fz
                  rename News _ _ _ _ => Nz
                  refine item_out hA (Fz.lst hy) (by rw [List.size_toArray, hln2]; omega) (by omega) fun h₁ tk₁ e nx => ?_
                  exact ⟨⟨i + 1, j + 1, _, _, Mv, Uv, Mi, Ui, _, _, _, _⟩, ⟨s.heap, KtsTurn.refl, B, ⟨Fr.lms Fz rfl rfl rfl rfl rfl rfl, Nz, hMi, hUi, by dsimp only; omega, by dsimp only; omega, by dsimp only; omega, by dsimp only; omega, by dsimp only; omega, by dsimp only; omega, cc1, cc2⟩, .inr (by dsimp only; omega)⟩, ⟨e, _, h₁, tk₁, none, rfl, rfl, XS.start B Fz nx rfl, .inl rfl⟩⟩
              · rename Fr _ _ _ _ => Fz
                rename News _ _ _ _ => Nz
                refine tryfin Fz (Around.frames_deeper B.stack) rfl (s₀ := s) ?_ ?_
                · repeat ((fail_if_success (with_reducible show wpAny _ _ (exec (Stmt.While _ _ _ _) _) _ _ _)); (first | (k_unfold; (try dsimp only)) | walk1 | (dsimp only; walk1)))
                  refine whl_start 0 (whl_turn (k := 0) (EXn.passes (Around.frames_deeper B.stack) rfl) ?_)
                  repeat ((fail_if_success (with_reducible show wpAny _ _ (subscriptTail _ _ (Value.ref x) _) _ _ _)); (first | (k_unfold; (try dsimp only)) | walk1 | (dsimp only; walk1)))
                  refine item_out hA (Fz.lst hx) (by rw [List.size_toArray, hln]; omega) (by omega) fun h₁ tk₁ e nx => ?_
                  exact ⟨e, h₁, tk₁, none, rfl, rfl, XS.start B Fz nx rfl, .inl rfl⟩
                · intro e h₁ tk₁ xs₁
                  obtain ⟨g₁, ob, Tb, oT, t₁, ts₁, K₁, F₁, B₁, N₁, o1, o2, o3, o4, o5⟩ := XS.led B Fz Nz xs₁
                  have ne1 : ∀ q ∈ [(l2, W.listOf Uv.toArray nu), (l1, W.listOf Mv.toArray nm)], q.1 ≠ e := fun q hq z => by
                    have q1 := (N₁ q (.tail _ (.tail _ hq))).1
                    rw [z, (N₁ _ (.head _)).1] at q1
                    injection q1 with q1
                    subst q1
                    simp only [List.mem_cons, List.not_mem_nil, or_false] at hq
                    rcases hq with hq | hq <;> (rw [hq] at o2; cases o2)
                  have ne2 : ∀ q ∈ [(l2, W.listOf Uv.toArray nu), (l1, W.listOf Mv.toArray nm)], q.1 ≠ Tb := fun q hq z => by
                    have q1 := (N₁ q (.tail _ (.tail _ hq))).1
                    rw [z, (N₁ _ (.tail _ (.head _))).1] at q1
                    injection q1 with q1
                    subst q1
                    simp only [List.mem_cons, List.not_mem_nil, or_false] at hq
                    rcases hq with hq | hq <;> (rw [hq] at o4; cases o4)
                  clear Fz Nz
                  have X₁ := XB.keeps B₁.stays
                  have TT₁ := TB.keeps B₁.stays
                  have hy₁ := IsList.turn K₁ hy
                  repeat ((fail_if_success (with_reducible show wpAny _ _ (exec (Stmt.While _ _ _ _) _) _ _ _)); (first | (k_unfold; (try dsimp only)) | walk1 | (dsimp only; walk1)))
                  refine wpAny_passesOwnAt (EXS.passesAt (Around.frames_deeper B.stack) rfl) ?_
                  refine whl_start 0 (whl_turn (k := 0) (EXS.passes (Around.frames_deeper B.stack) rfl) ?_)
                  by_cases hj2 : j + 1 < ys.length
                  · repeat (first | (k_unfold; (try dsimp only)) | walk1 | (dsimp only; walk1))
                    refine WhlIf.no (inner_no sy hj0 hj2) ?_
                    repeat (first | (k_unfold; (try dsimp only)) | walk1 | (dsimp only; walk1))
                    rename Fr _ _ _ _ => Fz
                    rename News _ _ _ _ => Nz
                    dsimp only
                    refine XS.flyOn B₁ Fz Nz rfl o1 o2 o3 o4 o5 ne1 ne2 fun Fu Nu h₆ x₆ => ?_
                    exact ⟨⟨i + 1, j + 1, _, _, Mv, Uv, Mi, Ui, _, _, _, _⟩, ⟨g₁, K₁, B₁, ⟨Fr.lms Fu rfl rfl rfl rfl rfl rfl, Nu, hMi, hUi, by dsimp only; omega, by dsimp only; omega, by dsimp only; omega, by dsimp only; omega, by dsimp only; omega, by dsimp only; omega, cc1, cc2⟩, .inl (by dsimp only; omega)⟩, ⟨e, _, h₆, _, _, rfl, rfl, x₆, .inr rfl⟩⟩
                  · repeat ((fail_if_success (with_reducible show wpAny _ _ (subscriptTail _ _ (Value.ref y) _) _ _ _)); (first | (k_unfold; (try dsimp only)) | walk1 | (dsimp only; walk1)))
                    rename Fr _ _ _ _ => Fz
                    rename News _ _ _ _ => Nz
                    refine item_out2 rfl (Nz _ (.head _)).1 o2 rfl (Fz.lst hy₁) (by rw [List.size_toArray, hln2]; omega) (by omega) fun h₆ tk₆ e₂ nx => ?_
                    exact ⟨⟨i + 1, j + 1, _, _, Mv, Uv, Mi, Ui, _, _, _, _⟩, ⟨g₁, K₁, B₁, ⟨Fr.lms Fz rfl rfl rfl rfl rfl rfl, fun q hq => Nz q (.tail _ (.tail _ hq)), hMi, hUi, by dsimp only; omega, by dsimp only; omega, by dsimp only; omega, by dsimp only; omega, by dsimp only; omega, by dsimp only; omega, cc1, cc2⟩, .inl (by dsimp only; omega)⟩, ⟨e₂, _, h₆, tk₆, none, rfl, rfl, XS.start B₁ Fz nx rfl, .inl rfl⟩⟩
        · repeat ((fail_if_success (with_reducible show wpAny _ _ (subscriptTail _ _ (Value.ref y) _) _ _ _)); (first | (k_unfold; (try dsimp only)) | walk1 | (dsimp only; walk1)))
          rename Fr _ _ _ _ => Fz
          rename News _ _ _ _ => Nz
          refine item_out hA (Fz.lst hy) (by rw [List.size_toArray, hln2]; omega) (by omega) fun h₁ tk₁ e nx => ?_
          exact ⟨⟨i, j, ti, tj, Mv, Uv, Mi, Ui, nm, nu, _, _⟩, ⟨s.heap, KtsTurn.refl, B, ⟨Fr.lms Fz rfl rfl rfl rfl rfl rfl, Nz, hMi, hUi, hi0, hi, hj0, hj, hml, hul, hc1, hc2⟩, .inr (by dsimp only; omega)⟩, ⟨e, _, h₁, tk₁, none, rfl, rfl, XS.start B Fz nx rfl, .inl rfl⟩⟩
      · repeat ((fail_if_success (with_reducible show wpAny _ _ (subscriptTail _ _ (Value.ref x) _) _ _ _)); (first | (k_unfold; (try dsimp only)) | walk1 | (dsimp only; walk1)))
        refine item_out hA (F.lst hx) (by rw [List.size_toArray, hln]; omega) (by omega) fun h₁ tk₁ e nx => ?_
        exact ⟨⟨i, j, ti, tj, Mv, Uv, Mi, Ui, nm, nu, h, r⟩, ⟨s.heap, KtsTurn.refl, B, ⟨F, N, hMi, hUi, hi0, hi, hj0, hj, hml, hul, hc1, hc2⟩, .inl (by dsimp only; omega)⟩, ⟨e, _, h₁, tk₁, none, rfl, rfl, XS.start B F nx rfl, .inl rfl⟩⟩
    · rintro v s' ⟨⟨i, j, ti, tj, Mv, Uv, Mi, Ui, nm, nu, h, r⟩, ⟨g, T₀, Bg, ⟨F, N, hMi, hUi, hi0, hi, hj0, hj, hml, hul, hc1, hc2⟩, hij⟩, ex⟩
      dsimp only at F N hMi hUi hi0 hi hj0 hj hml hul hc1 hc2 hij
      k_dflt (refine' caughtEX ?b1 ?b2 ?b3 ?b4 ?b5 ?b6 ?b7 ?_ ?b8 ?b9; (case b1 => exact Bg); (case b2 => exact F); (case b3 => exact N); (case b4 => exact XB); (case b5 => exact TB); (case b6 => exact ex); (case b7 => k_is); (case b8 => exact rfl); (case b9 => exact rfl))
      intro h₂ g₂ e tk₂ T₂ F₂ N₂ B₂
      clear F N
      have X₂ := XB.keeps B₂.stays
      have TT₂ := TB.keeps B₂.stays
      have hx₂ := IsList.turn (T₀.trans T₂) hx
      have hy₂ := IsList.turn (T₀.trans T₂) hy
      clear hx hy X T B
      iterate 16 (first | (k_unfold; (try dsimp only)) | walk1 | (dsimp only; walk1))
      k_dflt (refine' extendL ?e1 ?e2 ?e3 ?e4 ?e5 ?_; (case e1 => k_asm); (case e2 => k_asm); (case e3 => k_mem); (case e4 => k_updF); (case e5 => (simp only [IntsAre.length hMi, IntsAre.length (by assumption : IntsAre _ (List.drop i.toNat xs))]; omega)))
      intro h₃ n₃ F₃ N₃
      iterate 17 (first | (k_unfold; (try dsimp only)) | walk1 | (dsimp only; walk1))
      k_dflt (refine' extendL ?e1 ?e2 ?e3 ?e4 ?e5 ?_; (case e1 => k_asm); (case e2 => k_asm); (case e3 => k_mem); (case e4 => k_updF); (case e5 => (simp only [IntsAre.length hUi, IntsAre.length (by assumption : IntsAre _ (List.drop j.toNat ys))]; omega)))
      intro h₄ n₄ F₄ N₄
      repeat (first | (k_unfold; (try dsimp only)) | walk1 | (dsimp only; walk1))
      rename IntsAre _ (List.drop i.toNat xs) => I1
      rename IntsAre _ (List.drop j.toNat ys) => I2
      rename Fr _ _ _ _ => Fz
      rename News _ _ _ _ => Nz
      have e0 : sdiff (xs.drop i.toNat) (ys.drop j.toNat) = (xs.drop i.toNat, ys.drop j.toNat) := sdiff_end (by rcases hij with q | q; exact .inl (List.drop_eq_nil_iff.mpr (by omega)); exact .inr (List.drop_eq_nil_iff.mpr (by omega)))
      rw [e0] at hc1 hc2
      exact k g₂ _ _ _ _ _ _ _ _ _ (T₀.trans T₂) Fz.keep (Nz.get (by k_mem)) (Nz.get (by k_mem)) (Nz.get (by k_mem)) (hc1 ▸ hMi.append I1) (hc2 ▸ hUi.append I2) (Nz.fresh (o := { cls := .type "tuple", data := .seq #[.ref l1, .ref l2] }) (by k_mem)) (Nz.fresh (a := l1) (by k_mem)) (Nz.fresh (a := l2) (by k_mem))
  · exact ⟨⟨0, 0, _, _, [], [], [], [], _, _, _, _⟩, _, rfl, ⟨Fr.lms F rfl rfl rfl rfl rfl rfl, N, .nil, .nil, by dsimp only; omega, by dsimp only; omega, by dsimp only; omega, by dsimp only; omega, by simp, by simp, by simp, by simp⟩, by simp⟩
end Mine
end
section
open PySem PySem.W PySem.Calls PyProof.Rows
set_option Elab.async false
set_option maxRecDepth 100000
set_option maxHeartbeats 4000000
namespace Mine

noncomputable def sgn (n : Int) : Int := if n < 0 then -1 else if n = 0 then 0 else 1
theorem fdiv_neg_self {n : Int} (h : n < 0) : Int.fdiv n (-n) = -1 := by
  rw [Int.fdiv_eq_ediv_of_nonneg _ (by omega)]
  have : n = (-n) * (-1) := by omega
  conv => lhs; rw [this]; 
  rw [show -(-n * -1) = -n by omega, Int.mul_ediv_cancel_left _ (by omega)]
theorem fdiv_pos_self {n : Int} (h : 0 < n) : Int.fdiv n n = 1 := by
  rw [Int.fdiv_eq_ediv_of_nonneg _ (by omega), Int.ediv_self (by omega)]

theorem sign_spec {w : World} {A : Around} {s : Shared} {base : Heap} {outer : List Env} {p : Program} {loose : List Str} {mean : ExcName → Option Value} {mg mb : Str → Option Value} {Q E : Value → Shared → Prop} {n : Int} {t : Tok} (B : Below A base outer s.heap) (XB : (KK w).In base) (TB : Top p loose mean mg mb base) (hd : A.depth < recursionLimit) (hu : A.units + 20 < cLine) (hb1 : -1073741824 < n) (hb2 : n < 1073741824)
   (k : ∀ h' tk u, s.heap.StaysIn h' → Q (.int (sgn n) u) { s with heap := h', toks := tk }) :
   wpAny (model PR w) A (call (.ref 98) [.int n t]) Q E s := by
  unfold KK PR at *
  revert XB; k_fill; intro XB
  have X := XB.keeps B.stays
  have T := TB.keeps B.stays
  refine wpAny_call ?_
  k_dflt (refine' enter ?k3 ?k5 ?k6 ?k7 ?k8 ?k9 ?kB ?_ ?c5 ?c2 ?c3 ?c4; (case k3 => exact X); (case k5 => exact T.nolimit); (case k6 => k_is); (case k7 => k_is); (case k8 => assumption); (case k9 => exact BindsTo.of_eq rfl); (case c5 => decide); (case kB => exact locs rfl); (case c2 => exact rfl); (case c3 => exact rfl); (case c4 => exact rfl); k_whole; intro L' h' F' N'; (try dsimp only))
  by_cases h0 : n = 0
  · subst h0
    repeat (first | (k_unfold; (try dsimp only)) | walk1 | (dsimp only; walk1))
    exact k _ _ _ F'.keep
  · repeat ((fail_if_success (with_reducible show wpAny _ _ (binaryOp _ _ _) _ _ _)); (first | (k_unfold; (try dsimp only)) | walk1 | (dsimp only; walk1)))
    case' neg.refine'_4.refine_2 => exact absurd (by assumption) h0
    by_cases h1 : n < 0
    · rw [if_pos h1]
      refine floordiv_int (by omega) ?_ (.inl (PyProof.noPylong_small (by omega)))
      rw [fdiv_neg_self h1]
      have e : sgn n = -1 := if_pos h1
      rw [← e]
      exact k _ _ _ F'.keep
    · rw [if_neg h1]
      refine floordiv_int (by omega) ?_ (.inl (PyProof.noPylong_small (by omega)))
      rw [fdiv_pos_self (by omega)]
      have e : sgn n = 1 := by unfold sgn; rw [if_neg h1, if_neg h0]
      rw [← e]
      exact k _ _ _ F'.keep

theorem parts_spec {w : World} {A : Around} {s : Shared} {base : Heap} {outer : List Env} {p : Program} {loose : List Str} {mean : ExcName → Option Value} {mg mb : Str → Option Value} {Q E : Value → Shared → Prop} {n : Int} {t : Tok} (B : Below A base outer s.heap) (XB : (KK w).In base) (TB : Top p loose mean mg mb base) (hd : A.depth < recursionLimit) (hu : A.units + 20 < cLine) 
   (k : ∀ h' tk l vs, s.heap.StaysIn h' → h'.get? l = some (W.listOf vs.toArray 0) → IntsAre vs [1 + Int.fmod n 5, 1 + Int.fmod (Int.fdiv n 5) 5, 1 + Int.fmod (Int.fdiv n 100) 5, Int.fmod (Int.fdiv n 25) 4] → s.heap.get? l = none → Q (.ref l) { s with heap := h', toks := tk }) :
   wpAny (model PR w) A (call (.ref 58) [.int n t]) Q E s := by
  unfold KK PR at *
  revert XB; k_fill; intro XB
  have X := XB.keeps B.stays
  have T := TB.keeps B.stays
  refine wpAny_call ?_
  k_dflt (refine' enter ?k3 ?k5 ?k6 ?k7 ?k8 ?k9 ?kB ?_ ?c5 ?c2 ?c3 ?c4; (case k3 => exact X); (case k5 => exact T.nolimit); (case k6 => k_is); (case k7 => k_is); (case k8 => assumption); (case k9 => exact BindsTo.of_eq rfl); (case c5 => decide); (case kB => exact locs rfl); (case c2 => exact rfl); (case c3 => exact rfl); (case c4 => exact rfl); k_whole; intro L' h' F' N'; (try dsimp only))
  repeat (first | (k_unfold; (try dsimp only)) | walk1 | (dsimp only; walk1))
  rename Fr _ _ _ _ => Fz
  rename News _ _ _ _ => Nz
  exact k _ _ _ _ Fz.keep (Nz.get (.head _)) (.cons _ _ (.cons _ _ (.cons _ _ (.cons _ _ .nil)))) (Nz.fresh (.head _))

noncomputable def marksOf (a b c f : Int) : List Int :=
  if f = 0 then [a - 1, a + b - 1, a + 2 * b - 1, a + 3 * b - 1] else if f = 1 then [a - 1, a + b - 1, a + b + c - 1, a + b + 2 * c - 1] else if f = 2 then [a - 1, a + b - 1, a + b + c - 1] else [c - 1, a + c - 1, a + b + c - 1]
noncomputable def rowOf (a b c f : Int) : List Int :=
  if f = 0 then [a, b, 0, c] else if f = 1 then [a, b, c, 0] else if f = 2 then [a, b, c, 127, a] else [c, a, b]

theorem marks_spec {w : World} {A : Around} {s : Shared} {base : Heap} {outer : List Env} {p : Program} {loose : List Str} {mean : ExcName → Option Value} {mg mb : Str → Option Value} {Q E : Value → Shared → Prop} {a b c f : Int} {t1 t2 t3 t4 : Tok} (B : Below A base outer s.heap) (XB : (KK w).In base) (TB : Top p loose mean mg mb base) (hd : A.depth < recursionLimit) (hu : A.units + 20 < cLine) 
   (k : ∀ h' tk l vs n, s.heap.StaysIn h' → h'.get? l = some (W.listOf vs.toArray n) → IntsAre vs (marksOf a b c f) → s.heap.get? l = none → Q (.ref l) { s with heap := h', toks := tk }) :
   wpAny (model PR w) A (call (.ref 72) [.int a t1, .int b t2, .int c t3, .int f t4]) Q E s := by
  unfold KK PR at *
  revert XB; k_fill; intro XB
  have X := XB.keeps B.stays
  have T := TB.keeps B.stays
  refine wpAny_call ?_
  k_dflt (refine' enter ?k3 ?k5 ?k6 ?k7 ?k8 ?k9 ?kB ?_ ?c5 ?c2 ?c3 ?c4; (case k3 => exact X); (case k5 => exact T.nolimit); (case k6 => k_is); (case k7 => k_is); (case k8 => assumption); (case k9 => exact BindsTo.of_eq rfl); (case c5 => decide); (case kB => exact locs rfl); (case c2 => exact rfl); (case c3 => exact rfl); (case c4 => exact rfl); k_whole; intro L' h' F' N'; (try dsimp only))
  by_cases f0 : f = 0
  · subst f0
    repeat (first | (k_unfold; (try dsimp only)) | walk1 | (dsimp only; walk1))
    rename Fr _ _ _ _ => Fz
    rename News _ _ _ _ => Nz
    exact k _ _ _ _ _ Fz.keep (Nz.get (.head _)) (.cons _ _ (.cons _ _ (.cons _ _ (.cons _ _ .nil)))) (Nz.fresh (.head _))
  · by_cases f1 : f = 1
    · subst f1
      repeat (first | (k_unfold; (try dsimp only)) | walk1 | (dsimp only; walk1))
      rename Fr _ _ _ _ => Fz
      rename News _ _ _ _ => Nz
      exact k _ _ _ _ _ Fz.keep (Nz.get (.head _)) (.cons _ _ (.cons _ _ (.cons _ _ (.cons _ _ .nil)))) (Nz.fresh (.head _))
    · by_cases f2 : f = 2
      · subst f2
        repeat (first | (k_unfold; (try dsimp only)) | walk1 | (dsimp only; walk1))
        rename Fr _ _ _ _ => Fz
        rename News _ _ _ _ => Nz
        exact k _ _ _ _ _ Fz.keep (Nz.get (.head _)) (.cons _ _ (.cons _ _ (.cons _ _ .nil))) (Nz.fresh (.head _))
      · repeat' (first | (k_unfold; (try dsimp only)) | walk1 | (dsimp only; walk1))
        all_goals try (exfalso; omega)
        rename Fr _ _ _ _ => Fz
        rename News _ _ _ _ => Nz
        have e : marksOf a b c f = [c - 1, a + c - 1, a + b + c - 1] := by unfold marksOf; rw [if_neg f0, if_neg f1, if_neg f2]
        exact k _ _ _ _ _ Fz.keep (Nz.get (.head _)) (e ▸ .cons _ _ (.cons _ _ (.cons _ _ .nil))) (Nz.fresh (.head _))

theorem row_spec {w : World} {A : Around} {s : Shared} {base : Heap} {outer : List Env} {p : Program} {loose : List Str} {mean : ExcName → Option Value} {mg mb : Str → Option Value} {Q E : Value → Shared → Prop} {a b c f : Int} {t1 t2 t3 t4 : Tok} (B : Below A base outer s.heap) (XB : (KK w).In base) (TB : Top p loose mean mg mb base) (hd : A.depth < recursionLimit) (hu : A.units + 20 < cLine) (hf : 0 ≤ f) (hf4 : f < 4)
   (k : ∀ h' tk l vs n, s.heap.StaysIn h' → h'.get? l = some (W.listOf vs.toArray n) → IntsAre vs (rowOf a b c f) → s.heap.get? l = none → Q (.ref l) { s with heap := h', toks := tk }) :
   wpAny (model PR w) A (call (.ref 65) [.int a t1, .int b t2, .int c t3, .int f t4]) Q E s := by
  unfold KK PR at *
  revert XB; k_fill; intro XB
  have X := XB.keeps B.stays
  have T := TB.keeps B.stays
  refine wpAny_call ?_
  k_dflt (refine' enter ?k3 ?k5 ?k6 ?k7 ?k8 ?k9 ?kB ?_ ?c5 ?c2 ?c3 ?c4; (case k3 => exact X); (case k5 => exact T.nolimit); (case k6 => k_is); (case k7 => k_is); (case k8 => assumption); (case k9 => exact BindsTo.of_eq rfl); (case c5 => decide); (case kB => exact locs rfl); (case c2 => exact rfl); (case c3 => exact rfl); (case c4 => exact rfl); k_whole; intro L' h' F' N'; (try dsimp only))
  repeat ((fail_if_success (with_reducible show wpAny _ _ (subscriptTail _ _ _ _) _ _ _)); (first | (k_unfold; (try dsimp only)) | walk1 | (dsimp only; walk1)))
  have hh : f = 0 ∨ f = 1 ∨ f = 2 ∨ f = 3 := by omega
  rcases hh with rfl | rfl | rfl | rfl
  all_goals (
    (repeat (first | (k_unfold; (try dsimp only)) | walk1 | (dsimp only; walk1)))
    (rename Fr _ _ _ _ => Fz)
    (rename News _ _ _ _ => Nz))
  · exact k _ _ _ _ _ Fz.keep (Nz.get (by k_mem)) (.cons _ _ (.cons _ _ (.cons _ _ (.cons _ _ .nil)))) (Nz.fresh (by k_mem))
  · exact k _ _ _ _ _ Fz.keep (Nz.get (by k_mem)) (.cons _ _ (.cons _ _ (.cons _ _ (.cons _ _ .nil)))) (Nz.fresh (by k_mem))
  · exact k _ _ _ _ _ Fz.keep (Nz.get (by k_mem)) (.cons _ _ (.cons _ _ (.cons _ _ (.cons _ _ (.cons _ _ .nil))))) (Nz.fresh (by k_mem))
  · exact k _ _ _ _ _ Fz.keep (Nz.get (by k_mem)) (.cons _ _ (.cons _ _ (.cons _ _ .nil))) (Nz.fresh (by k_mem))
end Mine
end
section
open PySem PySem.W PySem.Calls PyProof.Rows
set_option Elab.async false
set_option maxRecDepth 100000
namespace Mine
section
variable {prog : Program} {w : World} {A : Around} {s : Shared} {K : Frag}
  {R : Result → Shared → Prop} {name qual : Str} {params : Arguments} {body : List Stmt} {scope : Scope} {dV kV doc pm cdv ct oc : Value} {an od : Option Addr} {osl : Array (Option Value)} {f : Addr} {args : Args} {binds : List (Str × Value)}

theorem enterC (X : K.In s.heap) (hlim : s.heap.NoLimit)
    (ho : K.lookup f = some ⟨oc, od, .func (fnOf name qual params body scope dV kV doc pm an cdv ct), osl⟩) (hcd : codeIn K cdv qual = true) (hroom : A.depth < recursionLimit)
    (hbind : BindsTo s (fnOf name qual params body scope dV kV doc pm an cdv ct) args binds) (hkind : (binds.all fun y => scope.names.lookup y.1 == some .local || scope.names.lookup y.1 == some .cell) = true)
    (hnd : ((cellsFrom 0 scope.names []).map (·.1)).Nodup)
    (h : ∀ L' h₁ tk cells, Fr s.heap L' h₁ (bindL (envOfC qual scope L' f cdv).kindOf binds fun _ => none) → News s.heap L' h₁ cells →
      CellsAre (bindC (envOfC qual scope L' f cdv).kindOf binds fun _ => none) (cellsFrom (L' + 1) scope.names []) cells →
      wpAny (model prog w) (A.deeper (envOfC qual scope L' f cdv)) (execs body (envOfC qual scope L' f cdv))
        (fun fl s' => R (.ok (.ret (match fl with | .ret v => v | _ => .none))) s')
        (fun _ _ => False)
        { s with heap := h₁, toks := tk })
    (hco : scope.isCoroutine = false) (hgen : scope.isGenerator = false) (hk : scope.kind = .function) : codeAny (model prog w) A (.call (.ref f) args) R s := by
  refine codeAny_call_function hroom (X _ _ ho) rfl hco hgen rfl (codeRec_of X hcd) (hbind _ _ _ _ ?_)
  refine wpAny_newFunctionEnv_cells hk (kindsX hkind _) fun env' he s' x => ?_
  subst he
  refine ⟨hlim.keeps x.toInCall.keep, codeAny_func ?_⟩
  obtain ⟨h₁, tk, rfl, _⟩ := x.done
  have hk₁ := x.toInCall.keep
  obtain ⟨cells, NC, Y⟩ := Cl.news (h₀ := s.heap) (Nat.le_refl _) fun n c hm => ⟨x.cell n c (lookup_of_mem_nodup (cellsFrom_names scope.names 0 (s.heap.objs.size + 1) [] [] rfl ▸ hnd) hm), x.above n c hm⟩
  exact wpAny_mono (h s.heap.objs.size h₁ tk cells ⟨x.toInCall.ns, hk₁, Nat.le_refl _⟩ NC Y) (fun _ _ y => y) fun _ _ y => y.elim
end
end Mine
end
section
open PySem PySem.W PySem.Calls PyProof.Rows
set_option Elab.async false
set_option maxRecDepth 100000
set_option maxHeartbeats 4000000
namespace Mine

theorem ints_get : ∀ {vs : List Value} {xs : List Int}, IntsAre vs xs → ∀ {i : Nat} {v : Value}, vs[i]? = some v → ∃ n t, v = .int n t ∧ xs[i]? = some n
  | _, _, .nil, _, _, h => by simp at h
  | _, _, .cons n t r, 0, v, h => by simp at h; exact ⟨n, t, h.symm, by simp⟩
  | _, _, .cons n t r, i + 1, v, h => by simp at h; simpa using ints_get r h
noncomputable def intOk (p : Int → Bool) : Value → Bool
  | .int n _ => p n
  | _ => false
theorem ints_filter (p : Int → Bool) : ∀ {vs : List Value} {xs : List Int}, IntsAre vs xs → IntsAre (vs.filter (intOk p)) (xs.filter p)
  | _, _, .nil => .nil
  | _, _, .cons n t r => by
    have ih := ints_filter p r
    cases h : p n with
    | true =>
      rw [List.filter_cons_of_pos (show intOk p (.int n t) = true from h), List.filter_cons_of_pos h]
      exact .cons n t ih
    | false =>
      rw [List.filter_cons_of_neg (by show ¬ p n = true; rw [h]; exact Bool.false_ne_true), List.filter_cons_of_neg (by rw [h]; exact Bool.false_ne_true)]
      exact ih
theorem paired_eq : ∀ {l₁ l₂ : List Value}, Paired (fun a b => a = b) l₁ l₂ → l₁ = l₂
  | _, _, .nil => rfl
  | _, _, .cons h r => by rw [h, paired_eq r]
theorem list_of_getElem? {α : Type} {l₁ l₂ : List α} (hl : l₁.length = l₂.length) (h : ∀ (j : Nat) (v : α), l₁[j]? = some v → l₂[j]? = some v) : l₁ = l₂ := by
  apply List.ext_getElem? 
  intro j
  cases e : l₁[j]? with
  | some v => exact (h j v e).symm
  | none => rw [List.getElem?_eq_none_iff] at e; rw [eq_comm, List.getElem?_eq_none_iff]; omega

theorem alone_spec {w : World} {A : Around} {s : Shared} {base : Heap} {outer : List Env} {p : Program} {loose : List Str} {mean : ExcName → Option Value} {mg mb : Str → Option Value} {Q E : Value → Shared → Prop} {x y : Addr} {vs us : List Value} {xs ys : List Int} (B : Below A base outer s.heap) (XB : (KK w).In base) (TB : Top p loose mean mg mb base) (hd : A.depth < recursionLimit) (hu : A.units + 20 < cLine) (hA : A.handled = none)
   (hx : s.heap.IsList x vs.toArray) (hy : s.heap.IsList y us.toArray) (ix : IntsAre vs xs) (iy : IntsAre us ys) (lx : xs.length ≤ 100)
   (k : ∀ h' tk l vs n, s.heap.StaysIn h' → h'.get? l = some (W.listOf vs.toArray n) → IntsAre vs (xs.filter fun m => !ys.any (· == m)) → s.heap.get? l = none → Q (.ref l) { s with heap := h', toks := tk }) :
   wpAny (model PR w) A (call (.ref 84) [.ref x, .ref y]) Q E s := by
  unfold KK PR at *
  revert XB; k_fill; intro XB
  have X := XB.keeps B.stays
  have T := TB.keeps B.stays
  refine wpAny_call ?_
  k_dflt (refine' enterC ?k3 ?k5 ?k6 ?k7 ?k8 ?k9 ?kB ?kD ?_ ?c2 ?c3 ?c4; (case k3 => exact X); (case k5 => exact T.nolimit); (case k6 => k_is); (case k7 => k_is); (case k8 => assumption); (case k9 => exact BindsTo.of_eq rfl); (case kB => exact rfl); (case kD => decide +kernel); (case c2 => exact rfl); (case c3 => exact rfl); (case c4 => exact rfl); k_whole; intro L' h' tk' cells' F' N' Y'; k_cells Y'; (try dsimp only))
  iterate 2 (first | (k_unfold; (try dsimp only)) | walk1 | (dsimp only; walk1))
  rename_i o' d1
  have hln := IntsAre.length ix
  have hcell : h'.IsCell (L' + 1) (some (.ref y)) := ⟨o', (N' _ (.head _)).1, d1⟩
  with_unfolding_all refine wpAny_ListComp_free (cl := [(Str.ofString "yours", L' + 1)]) (intOk fun m => !ys.any (· == m)) (fun a b => a = b) rfl (by decide) rfl (by decide) rfl ?_
  with_unfolding_all refine nameX_L (m := bindL _ _ _) F' rfl ?_
  refine wpAny_pyIter_list (F'.lst hx) ?_
  have hax : x ≠ h'.objs.size := by
    obtain ⟨o, ho, _⟩ := F'.lst hx
    exact Nat.ne_of_lt (Heap.lt_size ho)
  have up : ∀ b o, h'.get? b = some o → (h'.push { cls := .type "list_iterator", data := .fields #[.ref x, .int 0 0] }).get? b = some o := fun b o e => Heap.get?_push_of_some _ e
  refine ⟨h'.objs.size, [h'.objs.size, x], [h'.objs.size], vs.toArray.size, _, _, rfl, Walks.list (show (A.deeper _).handled = none from hA) h'.objs.size x hax vs.toArray, by simp only [List.size_toArray, sizeLine]; omega, ⟨?_, (F'.lst hx).push _⟩, ?_, ⟨?_, ?_⟩, ?_⟩
  · exact ⟨_, Heap.get?_push_size _ rfl, rfl, rfl⟩
  · intro b hb
    simp only [List.mem_cons, List.not_mem_nil, or_false] at hb
    rcases hb with rfl | rfl
    · rw [Heap.size_push]; exact Nat.lt_succ_self _
    · obtain ⟨o, ho, _⟩ := F'.lst hx
      rw [Heap.size_push]; exact Nat.lt_succ_of_lt (Heap.lt_size ho)
  · intro C i v s₃ m₃ E' hC hP hn hm hk htk
    obtain ⟨n, t, rfl, _⟩ := ints_get ix (by simpa using hP)
    refine wpAny_tests_one (wpAny_isTrue_Compare1 ?_)
    with_unfolding_all refine wpAny_Name (wpAny_loadName_local rfl rfl hn hm ?_)
    obtain ⟨oc, hoc, hdc⟩ := hcell
    have ne : L' + 1 ∉ [h'.objs.size] := fun hm => by
      rw [List.mem_singleton] at hm
      exact absurd (hm ▸ Heap.lt_size hoc) (Nat.lt_irrefl _)
    with_unfolding_all refine wpAny_Name (wpAny_loadName_cell (c := L' + 1) rfl rfl rfl ⟨oc, hk _ _ ne (up _ _ hoc), hdc⟩ ?_)
    obtain ⟨oy, hoy, ry⟩ := F'.lst hy
    have ney : y ∉ [h'.objs.size] := fun hm => by
      rw [List.mem_singleton] at hm
      exact absurd (hm ▸ Heap.lt_size hoy) (Nat.lt_irrefl _)
    refine notin_list_ints ⟨oy, hk _ _ ney (up _ _ hoy), ry⟩ iy ?_
    exact wpAny_truthy_bool ⟨rfl, _, _, rfl, fun _ _ e => e⟩
  · intro C i v s₃ m₃ E' hC hP hp hn hm hk htk
    with_unfolding_all refine wpAny_Name (wpAny_loadName_local rfl rfl hn hm ?_)
    exact ⟨rfl, _, _, rfl, fun _ _ e => e⟩
  · intro D h₂ tk₂ ys₂ vs₂ hD hl hpl hlen hP hF hk
    have e1 : vs₂ = vs := list_of_getElem? (by simpa using hlen) fun j v hj => by simpa using hP j v hj
    subst e1
    have e2 := paired_eq hF
    obtain ⟨n₂, hpl⟩ := hpl
    have e3 : ys₂ = (vs₂.filter (intOk fun m => !ys.any (· == m))).toArray := by rw [e2]
    subst e3
    refine k h₂ tk₂ D _ n₂ (fun b o e => ?_) hpl (ints_filter _ ix) ?_
    · have e' := F'.keep b o e
      exact hk b o (fun hm => by rw [List.mem_singleton] at hm; exact absurd (hm ▸ Heap.lt_size e') (Nat.lt_irrefl _)) (up _ _ e')
    · cases q : s.heap.get? D with
      | none => rfl
      | some o => rw [up _ _ (F'.keep _ _ q)] at hD; cases hD
end Mine
end
section
open PySem PySem.W PySem.W.X PySem.Calls PyProof.Rows
set_option Elab.async false
set_option maxRecDepth 100000
namespace Mine
section
variable {α : Type} {prog : Program} {w : World} {A : Around} {c : Code} {Q : α → Shared → Prop} {E : Value → Shared → Prop}
theorem m_pure {s : Shared} {a : α} (h : Q a s) : wpOwn (model prog w) A c (Sem.pure a) Q E s := y_pure _ _ _ _ _ _ _ _ _ h
theorem m_fresh {h : Heap} {g : Array GenState} {d : Drawn} {t : Nat} {os : OsState} {k : Tok → Sem α} (x : wpOwn (model prog w) A c (k t) Q E ⟨h, g, d, t + 1, os⟩) : wpOwn (model prog w) A c (.fresh k) Q E ⟨h, g, d, t, os⟩ := y_fresh _ _ _ _ _ _ _ _ _ _ _ _ _ x
theorem m_handled {s : Shared} {k : Option Value → Sem α} (x : wpOwn (model prog w) A c (k A.handled) Q E s) : wpOwn (model prog w) A c (.handled false k) Q E s := y_handled _ _ _ _ _ _ _ _ _ x
theorem m_stack {s : Shared} {k : List (Code × Pos) → Sem α} (x : ∀ (p : Pos) (below : List (Code × Pos)), Lies (A.under c) ((c, p) :: below) → wpOwn (model prog w) A c (k ((c, p) :: below)) Q E s) : wpOwn (model prog w) A c (.stack k) Q E s := y_stack _ _ _ _ _ _ _ _ _ x
theorem m_load {h : Heap} {g : Array GenState} {d : Drawn} {t : Nat} {os : OsState} {a : Addr} {q : Option Value} {k : Obj → Sem α} {o : Obj} (ho : h.get? a = some o) (x : wpOwn (model prog w) A c (k o) Q E ⟨h, g, d, t, os⟩) : wpOwn (model prog w) A c (.load a q k) Q E ⟨h, g, d, t, os⟩ := y_load _ _ _ _ _ _ _ _ _ _ _ _ _ _ _ _ ho x
theorem m_call {s : Shared} {c' : Code} {hd : Option Value} {g : Bool} {l : List Value} {k : Result → Sem α} (hnb : hd ≠ some byPass) (x : codeAny (model prog w) ((A.under c).mark hd) c' (postR prog w A c Q E k) s) : wpOwn (model prog w) A c (.call c' hd g l k) Q E s := y_call _ _ _ _ _ _ _ _ _ _ _ _ _ hnb x
theorem m_start {s : Shared} {c' : Code} {hd : Option Value} {g : Bool} {l : List Value} {k : Result → Sem α} (hnb : hd ≠ some byPass) (x : codeAny (model prog w) (A.mark hd) c' (postA prog w A Q E k) s) : wpAny (model prog w) A (.call c' hd g l k) Q E s := y_start _ _ _ _ _ _ _ _ _ _ _ _ hnb x
theorem m_code {A' : Around} {R : Result → Shared → Prop} {s : Shared} {c' : Code} (x : wpOwn (model prog w) A' c' (PySem.W.XFast.xw11892475500146522536 PySem.W.XFast.tableX c') (postC prog w A' R) (postE R) s) : codeAny (model prog w) A' c' R s :=
  y_code _ _ _ _ _ _ (by rw [show denote table c' = PySem.W.XFast.xw11892475500146522536 PySem.W.XFast.tableX c' from by rw [PySem.W.XFast.xe11892475500146522536, PySem.W.XFast.tableX_eq]]; exact x)
theorem m_again {A' : Around} {R : Result → Shared → Prop} {s : Shared} {c' : Code} (hq : c'.quiet = true) (x : codeAny (model prog w) A' c' R s) : postC prog w A' R (.again c') s := ⟨hq, x⟩
end
section
variable {α : Type} {prog : Program} {w : World} {A : Around} {c : Code} {Q : α → Shared → Prop} {E : Value → Shared → Prop}
theorem m_rule {s : Shared} {tag} {k : Unit → Sem α} (x : wpOwn (model prog w) A c (k ()) Q E s) : wpOwn (model prog w) A c (.rule tag k) Q E s := y_skim _ _ _ _ _ _ _ _ _ 1 x
theorem m_at {s : Shared} {q} {k : Unit → Sem α} (x : wpOwn (model prog w) A c (k ()) Q E s) : wpOwn (model prog w) A c (.at q k) Q E s := y_skim _ _ _ _ _ _ _ _ _ 1 x
theorem m_point {s : Shared} {l} {k : Unit → Sem α} (x : wpOwn (model prog w) A c (k ()) Q E s) : wpOwn (model prog w) A c (.point l k) Q E s := y_skim _ _ _ _ _ _ _ _ _ 1 x
theorem m_ask {s : Shared} {k : Setting → Sem α} (x : wpOwn (model prog w) A c (k ⟨prog, w.params⟩) Q E s) : wpOwn (model prog w) A c (.ask k) Q E s := y_skim _ _ _ _ _ _ _ _ _ 1 x
theorem m_bind {β : Type} {s : Shared} {t : Sem β} {k : β → Sem α} (x : wpOwn (model prog w) A c t (fun a s' => wpOwn (model prog w) A c (k a) Q E s') E s) : wpOwn (model prog w) A c (t.bind k) Q E s := wpOwn_bind x
end
theorem near_f {A : Around} {st : List (Code × Pos)} (l : Lies A st) (hd : A.depth < recursionLimit) (own : Nat) : nearF st own recursionLimit = false := l.near' hd own
theorem over_f {A : Around} {st : List (Code × Pos)} (l : Lies A st) (hd : A.depth < recursionLimit) (own : Nat) : overF st own recursionLimit = false := l.over hd own
theorem warm_f {A : Around} {st : List (Code × Pos)} (l : Lies A st) (hd : A.depth < recursionLimit) (own : Nat) : warmF st own recursionLimit = false := l.warm hd own
section
variable {α : Type} {prog : Program} {w : World} {A : Around} {c : Code} {Q : α → Shared → Prop} {E : Value → Shared → Prop}
theorem m_onRaise {s : Shared} {t : Sem α} {k : Value → Sem Unit} (x : wpOwn (model prog w) A c t Q (fun e s' => wpOwn (model prog w) A c (k e) (fun _ s'' => E e s'') E s') s) : wpOwn (model prog w) A c (t.onRaise k) Q E s := fun Γ p hc hΓ => by
  rw [Sem.wp_onRaise]
  exact Sem.wp_mono _ Γ t (fun _ _ _ h' => h') (fun e p' s' h' => h' Γ p' hc hΓ) p s (x Γ p hc hΓ)
theorem m_tryCatch {s : Shared} {t : Sem α} {k : Value → Sem α} (x : wpOwn (model prog w) A c t Q (fun e s' => wpOwn (model prog w) A c (k e) Q E s') s) : wpOwn (model prog w) A c (t.tryCatch k) Q E s := fun Γ p hc hΓ => by
  rw [Sem.wp_tryCatch]
  exact Sem.wp_mono _ Γ t (fun _ _ _ h' => h') (fun e p' s' h' => h' Γ p' hc hΓ) p s (x Γ p hc hΓ)
theorem m_keep {s : Shared} {t : Sem α} {vs : List Value} (x : wpOwn (model prog w) A c t Q E s) : wpOwn (model prog w) A c (t.keep vs) Q E s := fun Γ p hc hΓ => by
  rw [Sem.wp_keep]
  exact x Γ p hc hΓ
end
section
variable {h₀ h : Heap} {chg news : List (Addr × Obj)} {a b : Addr} {o o' : Obj} {K : Frag}
theorem beq_no {a b : Nat} (h : a ≠ b) : (a == b) = false := by simp [h]
end
section
variable {α : Type} {prog : Program} {w : World} {A : Around} {c : Code} {Q : α → Shared → Prop} {E : Value → Shared → Prop}
end
inductive NL {β : Type} : List β → List β → Prop
  | nil {l : List β} (h : l = []) : NL l []
  | cons {l t t' : List β} {x₀ x : β} (h : l = x₀ :: t) (hx : x₀ = x) (ht : NL t t') : NL l (x :: t')
theorem NL.eq {β : Type} {l l' : List β} (n : NL l l') : l = l' := by
  induction n with
  | nil h => exact h
  | cons h hx _ ih => rw [h, hx, ih]
theorem obj_dict {o : Obj} {cl : Value} {d : Option Addr} {arr : Array DictEntry} {n : Nat} {sl : Array (Option Value)} {l l' : List DictEntry} (e : o = ⟨cl, d, .dict arr n, sl⟩) (h : arr = ⟨l⟩) (hl : NL l l') : o = ⟨cl, d, .dict ⟨l'⟩ n, sl⟩ := by
  rw [e, h, hl.eq]
theorem ca_none {p : Pos} {l : List Value} (h : codeAmong p l = none) : PySem.W.XFast.xw7104952167334194321 p l.toArray.toList = none := by
  rw [← PySem.W.XFast.xe7104952167334194321]
  exact h
theorem ca_some {p : Pos} {l : List Value} {x y v : Value} (h : codeAmong p (l ++ [x, y, v]) = some v) : PySem.W.XFast.xw7104952167334194321 p (l ++ [x, y, v]).toArray.toList = some v := by
  rw [← PySem.W.XFast.xe7104952167334194321]
  exact h
theorem ca_some1 {p : Pos} {x y v : Value} (h : codeAmong p [x, y, v] = some v) : PySem.W.XFast.xw7104952167334194321 p [x, y, v].toArray.toList = some v := by
  rw [← PySem.W.XFast.xe7104952167334194321]
  exact h
theorem regrow_hn {p : Pos} {l m : List Value} (h : codeAmong p l = none) : Obj.mapFields (fun vs => condFn (Array Value) (PySem.W.XFast.xw7104952167334194321 p vs.toList).isSome vs (vs ++ m.toArray)) (tableObj l.toArray) = tableObj (l.toArray ++ m.toArray) := by
  show tableObj (condFn (Array Value) (PySem.W.XFast.xw7104952167334194321 p l.toArray.toList).isSome l.toArray (l.toArray ++ m.toArray)) = _
  rw [ca_none h]
  rfl
theorem regrow_hn2 {p : Pos} {l m : List Value} (h : codeAmong p l = none) : Obj.mapFields (fun vs => condFn (Array Value) (PySem.W.XFast.xw7104952167334194321 p vs.toList).isSome vs (vs ++ m.toArray)) (tableObj l.toArray) = tableObj (l ++ m).toArray := by
  rw [regrow_hn h, List.append_toArray]
theorem regrow0 {p : Pos} {m : List Value} {vs : Array Value} (h : vs = #[]) : Obj.mapFields (fun vs => condFn (Array Value) (PySem.W.XFast.xw7104952167334194321 p vs.toList).isSome vs (vs ++ m.toArray)) (tableObj vs) = tableObj m.toArray := by
  subst h
  have e := regrow_hn2 (p := p) (l := []) (m := m) rfl
  exact e
section
variable {α : Type} {prog : Program} {w : World} {A : Around} {c : Code} {Q : α → Shared → Prop} {E : Value → Shared → Prop}
end
theorem or_r {x y : Bool} (h : y = true) : (x || y) = true := by rw [h, Bool.or_true]
theorem or_l {x y : Bool} (h : x = true) : (x || y) = true := by rw [h, Bool.true_or]
theorem and_r {x y : Bool} (h : y = false) : (x && y) = false := by rw [h, Bool.and_false]
theorem filt_self (a : Addr) : List.filter (fun x => @bne Value (@instBEqOfDecidableEq Value PySem.W.XFast.xw7966671052430208091) x (Value.ref a)) (Value.ref a :: (fun x => Value.type "object" :: x) []) = [Value.type "object"] := by
  rw [← PySem.W.XFast.xe7966671052430208091]
  simp
theorem drop_self (a : Addr) : List.drop 1 (List.dropWhile (fun x => @bne Value (@instBEqOfDecidableEq Value PySem.W.XFast.xw7966671052430208091) x (Value.ref a)) (Value.ref a :: [Value.type "object"])) = [Value.type "object"] := by
  rw [← PySem.W.XFast.xe7966671052430208091]
  simp [List.dropWhile]
theorem slot_upd {cl : Value} {d : Option Addr} {dt : Data} {l l' : List (Option Value)} {i : Nat} {v : Option Value} (hl : NL ((l ++ List.replicate (i + 1 - l.length) none).set i v) l') :
    (fun o : Obj => { o with slots := (o.slots ++ Array.replicate (i + 1 - o.slots.size) none).setIfInBounds i v }) ⟨cl, d, dt, l.toArray⟩ = ⟨cl, d, dt, l'.toArray⟩ := by
  rw [← hl.eq]
  have e : Array.replicate (i + 1 - l.length) (none : Option Value) = (List.replicate (i + 1 - l.length) none).toArray := by simp
  show (⟨cl, d, dt, (l.toArray ++ Array.replicate (i + 1 - l.toArray.size) none).setIfInBounds i v⟩ : Obj) = _
  rw [List.size_toArray, e, List.append_toArray, List.setIfInBounds_toArray]
theorem contains_self {a : Addr} {l : List Value} : @List.contains Value (@instBEqOfDecidableEq Value PySem.W.XFast.xw7966671052430208091) (Value.ref a :: l) (Value.ref a) = true := by
  rw [← PySem.W.XFast.xe7966671052430208091]
  simp
theorem m_loop {β : Type} {prog : Program} {w : World} {A : Around} {c : Code} {Q : β → Shared → Prop} {E : Value → Shared → Prop} {s : Shared} {l : List Value} {g : Value → β → Sem (ForInStep β)} {b : β} {h : ∃ bs, bs ++ l = l} (l' : List Value) (e : l = l')
    (x : wpOwn (model prog w) A c (List.forIn'.loop l' (fun a _ => g a) l' b ⟨[], rfl⟩) Q E s) : wpOwn (model prog w) A c (List.forIn'.loop l (fun a _ => g a) l b h) Q E s := by
  subst e
  exact x
section
variable {α : Type} {prog : Program} {w : World} {A : Around} {c : Code} {Q : α → Shared → Prop} {E : Value → Shared → Prop}
theorem m_follow {s : Shared} {t : Sem α} {k : Value → Sem α} {b : Bool} (x : wpOwn (model prog w) A c t Q (fun _ _ => False) s) : wpOwn (model prog w) A c (@Bool.rec (fun _ => Sem α) (t.tryCatch k) t b) Q E s := by
  cases b with
  | true => exact wpOwn_mono x (fun _ _ h => h) (fun _ _ h => h.elim)
  | false => exact m_tryCatch (wpOwn_mono x (fun _ _ h => h) (fun _ _ h => h.elim))
end
theorem ltI_yes {a b : Int} (h : a < b) : @decide (a < b) (ltQ a b) = true := by
  rw [← ltQ_eq]
  simp [h]
theorem ltI_no {a b : Int} (h : ¬ a < b) : @decide (a < b) (ltQ a b) = false := by
  rw [← ltQ_eq]
  simp only [h, decide_false]
section
variable {A : Around} {c : Code} {k lim : Nat} {hd : Option Value}
theorem dep0 (h : A.depth + 0 < lim) : A.depth < lim := h
theorem dep_mark (h : A.depth + k < lim) : (A.mark hd).depth + k < lim := h
theorem dep_under (hw : Nat.ble c.weight 2 = true) (h : A.depth + (k + 2) < lim) : (A.under c).depth + k < lim := by
  have := Nat.le_of_ble_eq_true hw
  show A.depth + c.weight + k < lim
  omega
theorem uni0 (h : A.units + 0 < lim) : A.units < lim := h
theorem uni_mark (h : A.units + k < lim) : (A.mark hd).units + k < lim := h
theorem uni_under (hw : Nat.ble c.cUnits 7 = true) (h : A.units + (k + 7) < lim) : (A.under c).units + k < lim := by
  have := Nat.le_of_ble_eq_true hw
  show A.units + c.cUnits + k < lim
  omega
theorem m_end {α : Type} {prog : Program} {w : World} {A : Around} {Q : α → Shared → Prop} {E : Value → Shared → Prop} {s : Shared} {k : Result → Sem α} {r : Result} {v : α} (e : k r = .pure v) (x : Q v s) : postA prog w A Q E k r s := y_endOk _ _ _ _ _ _ _ _ _ _ e x
theorem Mem.stays {h₀ h : Heap} {news : List (Addr × Obj)} (D : Mem h₀ h [] news) : ∀ b o, h₀.get? b = some o → h.get? b = some o := fun b o e => D.keep b o e (by simp [away])
end
section
variable {α : Type} {prog : Program} {w : World} {A : Around} {c : Code} {Q : α → Shared → Prop} {E : Value → Shared → Prop}
theorem findBy_some {es : Array DictEntry} {name : Str} {v : Value} (h : nsFind es name = some v) : ∃ e, es.find? (·.key.isStr name) = some e ∧ e.val = v := by
  unfold nsFind findBy at h
  cases q : es.find? (·.key.isStr name) with
  | none => simp [q] at h
  | some e => simp [q] at h; exact ⟨e, rfl, h⟩
theorem m_ns {s : Shared} {es : Array DictEntry} {n : Nat} {l : List Nat} {name : Str} {v : Value} {alt2 alt3 : Unit → Sem (Option Value)} {Q : Option Value → Shared → Prop} (hf : nsFind es name = some v) (hn : n = name.cps.size) (hl : l = name.cps.toList)
    (x : wpOwn (model prog w) A c (Sem.pure (some v)) Q E s) : wpOwn (model prog w) A c (nsLook.match_1 (fun _ => Sem (Option Value)) (PySem.W.XFast.xw3451499830137702736 n l es.toList false) (fun e _ => pure (some e.val)) alt2 alt3) Q E s := by
  subst hn hl
  rw [← PySem.W.XFast.xe3451499830137702736]
  obtain ⟨e, he, hv⟩ := findBy_some hf
  have h1 := nsNameIn_fst name es
  rw [he] at h1
  generalize nsNameIn name.cps.size name.cps.toList es.toList false = y at h1 ⊢
  obtain ⟨a, b⟩ := y
  simp only at h1
  subst h1
  subst hv
  exact x
end
noncomputable def Low (h : Heap) : Prop := ∃ o, h.get? 120 = some o ∧ hasCls o = true
section
variable {α : Type} {prog : Program} {w : World} {A : Around} {c : Code} {Q : α → Shared → Prop} {E : Value → Shared → Prop}
end
end Mine
end
section
open PySem PySem.W PySem.W.X PySem.Calls PyProof.Rows
set_option Elab.async false
set_option maxRecDepth 100000
namespace Mine
noncomputable def Offs (ad : Nat → Addr) : Prop := ∀ i, ad i = ad 0 + i
noncomputable def AtM (h₀ : Heap) (n : Nat → Addr) (chg news : List (Addr × Obj)) (g : Array GenState) (d : Drawn) (t : Nat) (os : OsState) (P : Shared → Prop) : Prop :=
  ∀ h, Mem h₀ h chg news → h.objs.size = n news.length → P ⟨h, g, d, t, os⟩
noncomputable def postB {α β : Type} (prog : Program) (w : World) (A : Around) (c : Code) (Q : α → Shared → Prop) (E : Value → Shared → Prop) (k : β → Sem α) : β → Shared → Prop := fun a s' => wpOwn (model prog w) A c (k a) Q E s'
noncomputable def postT {α : Type} (prog : Program) (w : World) (A : Around) (c : Code) (Q : α → Shared → Prop) (E : Value → Shared → Prop) (k : Value → Sem α) : Value → Shared → Prop := fun e s' => wpOwn (model prog w) A c (k e) Q E s'
noncomputable def postO (prog : Program) (w : World) (A : Around) (c : Code) (E : Value → Shared → Prop) (k : Value → Sem Unit) : Value → Shared → Prop := fun e s' => wpOwn (model prog w) A c (k e) (fun _ s'' => E e s'') E s'
section
variable {prog : Program} {w : World} {h₀ : Heap} {n : Nat → Addr} {g : Array GenState} {d : Drawn} {os : OsState} {chg news : List (Addr × Obj)} {t : Nat} {A : Around} {c : Code} {α : Type} {E : Value → Shared → Prop} {Q : α → Shared → Prop}
theorem q_mono {P P' : Shared → Prop} (f : ∀ s, P s → P' s) (x : AtM h₀ n chg news g d t os P) : AtM h₀ n chg news g d t os P' := fun h D z => f _ (x h D z)
theorem q_dq {T T' : Sem α} (x : AtM h₀ n chg news g d t os (wpOwn (model prog w) A c T' Q E)) (e : T = T') : AtM h₀ n chg news g d t os (wpOwn (model prog w) A c T Q E) := e ▸ x
theorem q_dc {A' : Around} {c' : Code} {R : Result → Shared → Prop} {c'' : Code} (x : AtM h₀ n chg news g d t os (codeAny (model prog w) A' c'' R)) (e : c' = c'') : AtM h₀ n chg news g d t os (codeAny (model prog w) A' c' R) := e ▸ x
theorem q_rule {tag} {k : Unit → Sem α} (x : AtM h₀ n chg news g d t os (wpOwn (model prog w) A c (k ()) Q E)) : AtM h₀ n chg news g d t os (wpOwn (model prog w) A c (.rule tag k) Q E) := q_mono (fun _ => m_rule) x
theorem q_at {q} {k : Unit → Sem α} (x : AtM h₀ n chg news g d t os (wpOwn (model prog w) A c (k ()) Q E)) : AtM h₀ n chg news g d t os (wpOwn (model prog w) A c (.at q k) Q E) := q_mono (fun _ => m_at) x
theorem q_point {l} {k : Unit → Sem α} (x : AtM h₀ n chg news g d t os (wpOwn (model prog w) A c (k ()) Q E)) : AtM h₀ n chg news g d t os (wpOwn (model prog w) A c (.point l k) Q E) := q_mono (fun _ => m_point) x
theorem q_ask {k : Setting → Sem α} (x : AtM h₀ n chg news g d t os (wpOwn (model prog w) A c (k ⟨prog, w.params⟩) Q E)) : AtM h₀ n chg news g d t os (wpOwn (model prog w) A c (.ask k) Q E) := q_mono (fun _ => m_ask) x
theorem q_pure {a : α} (x : AtM h₀ n chg news g d t os (Q a)) : AtM h₀ n chg news g d t os (wpOwn (model prog w) A c (Sem.pure a) Q E) := q_mono (fun _ => m_pure) x
theorem q_done {A' : Around} {R : Result → Shared → Prop} {f : Flow} (x : AtM h₀ n chg news g d t os (R (.ok f))) : AtM h₀ n chg news g d t os (postC prog w A' R (.done f)) := x
theorem q_again {A' : Around} {R : Result → Shared → Prop} {c' : Code} (hq : c'.quiet = true) (x : AtM h₀ n chg news g d t os (codeAny (model prog w) A' c' R)) : AtM h₀ n chg news g d t os (postC prog w A' R (.again c')) := q_mono (fun _ => m_again hq) x
theorem q_ret {k : Result → Sem α} {r : Result} (x : AtM h₀ n chg news g d t os (wpOwn (model prog w) A c (k r) Q E)) : AtM h₀ n chg news g d t os (postR prog w A c Q E k r) := x
theorem q_retB {β : Type} {k : β → Sem α} {r : β} (x : AtM h₀ n chg news g d t os (wpOwn (model prog w) A c (k r) Q E)) : AtM h₀ n chg news g d t os (postB prog w A c Q E k r) := x
theorem q_unb {β : Type} {E' : Value → Shared → Prop} {k : β → Sem α} {a : β} (x : AtM h₀ n chg news g d t os (wpOwn (model prog w) A c (k a) Q E)) : AtM h₀ n chg news g d t os (wpOwn (model prog w) A c (Sem.pure a) (postB prog w A c Q E k) E') := q_pure x
theorem q_code {A' : Around} {R : Result → Shared → Prop} {c' : Code} (x : AtM h₀ n chg news g d t os (wpOwn (model prog w) A' c' (PySem.W.XFast.xw11892475500146522536 PySem.W.XFast.tableX c') (postC prog w A' R) (postE R))) : AtM h₀ n chg news g d t os (codeAny (model prog w) A' c' R) := q_mono (fun _ => m_code) x
theorem q_call {c' : Code} {hd : Option Value} {gd : Bool} {l : List Value} {k : Result → Sem α} (hnb : hd ≠ some byPass) (x : AtM h₀ n chg news g d t os (codeAny (model prog w) ((A.under c).mark hd) c' (postR prog w A c Q E k))) : AtM h₀ n chg news g d t os (wpOwn (model prog w) A c (.call c' hd gd l k) Q E) := q_mono (fun _ => m_call hnb) x
theorem q_bind {β : Type} {T : Sem β} {k : β → Sem α} (x : AtM h₀ n chg news g d t os (wpOwn (model prog w) A c T (postB prog w A c Q E k) E)) : AtM h₀ n chg news g d t os (wpOwn (model prog w) A c (T.bind k) Q E) := q_mono (fun _ => m_bind) x
theorem q_onRaise {T : Sem α} {k : Value → Sem Unit} (x : AtM h₀ n chg news g d t os (wpOwn (model prog w) A c T Q (postO prog w A c E k))) : AtM h₀ n chg news g d t os (wpOwn (model prog w) A c (T.onRaise k) Q E) := q_mono (fun _ => m_onRaise) x
theorem q_keep {T : Sem α} {vs : List Value} (x : AtM h₀ n chg news g d t os (wpOwn (model prog w) A c T Q E)) : AtM h₀ n chg news g d t os (wpOwn (model prog w) A c (T.keep vs) Q E) := q_mono (fun _ => m_keep) x
theorem q_fresh {k : Tok → Sem α} (x : AtM h₀ n chg news g d (t + 1) os (wpOwn (model prog w) A c (k t) Q E)) : AtM h₀ n chg news g d t os (wpOwn (model prog w) A c (.fresh k) Q E) := fun h D z => m_fresh (x h D z)
theorem q_handled {k : Option Value → Sem α} (x : AtM h₀ n chg news g d t os (wpOwn (model prog w) A c (k A.handled) Q E)) : AtM h₀ n chg news g d t os (wpOwn (model prog w) A c (.handled false k) Q E) := q_mono (fun _ => m_handled) x
theorem q_stack {k : List (Code × Pos) → Sem α} (x : ∀ st, Lies (A.under c) st → AtM h₀ n chg news g d t os (wpOwn (model prog w) A c (k st) Q E)) : AtM h₀ n chg news g d t os (wpOwn (model prog w) A c (.stack k) Q E) := fun h D z => m_stack fun _ _ l => x _ l h D z
theorem q_loadI {a : Addr} {q : Option Value} {k : Obj → Sem α} {o : Obj} (i : Nat) (e : news[i]? = some (a, o)) (x : AtM h₀ n chg news g d t os (wpOwn (model prog w) A c (k o) Q E)) : AtM h₀ n chg news g d t os (wpOwn (model prog w) A c (.load a q k) Q E) := fun h D z => m_load (D.at i _ _ e) (x h D z)
theorem q_loadC {a : Addr} {q : Option Value} {k : Obj → Sem α} {o : Obj} (i : Nat) (e : chg[i]? = some (a, o)) (x : AtM h₀ n chg news g d t os (wpOwn (model prog w) A c (k o) Q E)) : AtM h₀ n chg news g d t os (wpOwn (model prog w) A c (.load a q k) Q E) := fun h D z => m_load (D.atC i _ _ e) (x h D z)
theorem q_loadH {a : Addr} {q : Option Value} {k : Obj → Sem α} {o : Obj} (e : h₀.get? a = some o) (hc : (hasCls o || away chg a) = true) (x : AtM h₀ n chg news g d t os (wpOwn (model prog w) A c (k o) Q E)) : AtM h₀ n chg news g d t os (wpOwn (model prog w) A c (.load a q k) Q E) := fun h D z => m_load (D.old _ _ e hc) (x h D z)
theorem q_loadK {a : Addr} {q : Option Value} {k : Obj → Sem α} {o : Obj} {K : Frag} (X : K.In h₀) (e : K.lookup a = some o) (hc : (hasCls o || away chg a) = true) (x : AtM h₀ n chg news g d t os (wpOwn (model prog w) A c (k o) Q E)) : AtM h₀ n chg news g d t os (wpOwn (model prog w) A c (.load a q k) Q E) := q_loadH (X _ _ e) hc x
theorem q_alloc {o o' : Obj} {k : Addr → Sem α} (had : Offs n) (m : Nat) (eo : o = o') (e : news.length = m) (hf : o'.isFreed = false) (x : AtM h₀ n chg ((n m, o') :: news) g d t os (wpOwn (model prog w) A c (k (n m)) Q E)) : AtM h₀ n chg news g d t os (wpOwn (model prog w) A c (.alloc o k) Q E) := by
  subst e eo
  intro h D z
  refine wpOwn_bind (m := alloc o) (f := k) (wpOwn_of_wpAny (wpAny_alloc ?_))
  have y := x (h.push o) (by have := D.alloc hf; rw [z] at this; exact this) (by rw [Heap.size_push, z, List.length_cons, had news.length, had (news.length + 1)]; rfl)
  rw [← z] at y
  exact y
theorem q_upd {a : Addr} {q : Option Value} {f : Obj → Obj} {k : Unit → Sem α} {o o' : Obj} {news' : List (Addr × Obj)} (i : Nat) (e : news[i]? = some (a, o)) (ue : f o = o') (uf : o'.isFreed = false) (hn : news.set i (a, o') = news')
    (x : AtM h₀ n chg news' g d t os (wpOwn (model prog w) A c (k ()) Q E)) : AtM h₀ n chg news g d t os (wpOwn (model prog w) A c (.update a q f k) Q E) := by
  subst ue hn
  intro h D z
  exact wpOwn_bind (m := updatePart a q f) (f := k) (wpOwn_of_wpAny (wpAny_updatePart (D.at i a o e) (x _ (D.update e uf) (by rw [Heap.size_update, z, List.length_set]))))
theorem q_grow {a : Addr} {q : Option Value} {f : Obj → Obj} {k : Unit → Sem α} {c₀ : Addr} {m : List Value} (ht : h₀.TableAt c₀ a #[]) (hw : away chg a = true)
    (hn : f (tableObj #[]) = tableObj (#[] ++ m.toArray)) (x : AtM h₀ n ((a, tableObj m.toArray) :: chg) news g d t os (wpOwn (model prog w) A c (k ()) Q E)) : AtM h₀ n chg news g d t os (wpOwn (model prog w) A c (.update a q f k) Q E) := by
  intro h D z
  refine wpOwn_bind (m := updatePart a q f) (f := k) (wpOwn_of_wpAny (wpAny_updatePart (D.keep a _ ht.2 (by rw [hw, Bool.or_true])) (x _ (by have := D.grow ht hw hn; rw [Array.empty_append] at this; exact this) (by rw [Heap.size_update, z]))))
theorem q_boolT {f T : Sem α} {b : Bool} (h : b = true) (x : AtM h₀ n chg news g d t os (wpOwn (model prog w) A c T Q E)) : AtM h₀ n chg news g d t os (wpOwn (model prog w) A c (@Bool.rec (fun _ => Sem α) f T b) Q E) := by subst h; exact x
theorem q_boolF {f T : Sem α} {b : Bool} (h : b = false) (x : AtM h₀ n chg news g d t os (wpOwn (model prog w) A c f Q E)) : AtM h₀ n chg news g d t os (wpOwn (model prog w) A c (@Bool.rec (fun _ => Sem α) f T b) Q E) := by subst h; exact x
theorem q_follow {T : Sem α} {k : Value → Sem α} {b : Bool} (x : AtM h₀ n chg news g d t os (wpOwn (model prog w) A c T Q (fun _ _ => False))) : AtM h₀ n chg news g d t os (wpOwn (model prog w) A c (@Bool.rec (fun _ => Sem α) (T.tryCatch k) T b) Q E) := q_mono (fun _ => m_follow) x
theorem q_ns {es : Array DictEntry} {i : Nat} {l : List Nat} {name : Str} {v : Value} {alt2 alt3 : Unit → Sem (Option Value)} {Q : Option Value → Shared → Prop} (hf : nsFind es name = some v) (hn : i = name.cps.size) (hl : l = name.cps.toList)
    (x : AtM h₀ n chg news g d t os (wpOwn (model prog w) A c (Sem.pure (some v)) Q E)) : AtM h₀ n chg news g d t os (wpOwn (model prog w) A c (nsLook.match_1 (fun _ => Sem (Option Value)) (PySem.W.XFast.xw3451499830137702736 i l es.toList false) (fun e _ => pure (some e.val)) alt2 alt3) Q E) := q_mono (fun _ => m_ns hf hn hl) x
theorem q_loop {β : Type} {Q : β → Shared → Prop} {l : List Value} {f : Value → β → Sem (ForInStep β)} {b : β} {hb : ∃ bs, bs ++ l = l} (l' : List Value) (e : l = l')
    (x : AtM h₀ n chg news g d t os (wpOwn (model prog w) A c (List.forIn'.loop l' (fun a _ => f a) l' b ⟨[], rfl⟩) Q E)) : AtM h₀ n chg news g d t os (wpOwn (model prog w) A c (List.forIn'.loop l (fun a _ => f a) l b hb) Q E) := q_mono (fun _ => m_loop l' e) x
theorem q_end {k : Result → Sem α} {r : Result} {v : α} (e : k r = .pure v) (x : AtM h₀ n chg news g d t os (Q v)) : AtM h₀ n chg news g d t os (postA prog w A Q E k r) := q_mono (fun _ => m_end e) x
theorem q_start {c' : Code} {hd : Option Value} {gd : Bool} {l : List Value} {k : Result → Sem α} (hnb : hd ≠ some byPass) (hn : h₀.objs.size = n 0) (x : AtM h₀ n [] [] g d t os (codeAny (model prog w) (A.mark hd) c' (postA prog w A Q E k))) : wpAny (model prog w) A (.call c' hd gd l k) Q E ⟨h₀, g, d, t, os⟩ :=
  m_start hnb (x h₀ (Mem.start _) hn)
end
section
variable {prog : Program} {w : World} {h₀ : Heap} {n : Nat → Addr} {g : Array GenState} {d : Drawn} {os : OsState} {chg news : List (Addr × Obj)} {t : Nat} {A : Around} {c : Code} {α : Type} {E : Value → Shared → Prop} {Q : α → Shared → Prop}
theorem q_loadL {a : Addr} {q : Option Value} {k : Obj → Sem α} {o : Obj} {L : List (Addr × Obj)} (X : ∀ p ∈ L, h₀.get? p.1 = some p.2) (i : Nat) (e : L[i]? = some (a, o)) (hc : (hasCls o || away chg a) = true) (x : AtM h₀ n chg news g d t os (wpOwn (model prog w) A c (k o) Q E)) : AtM h₀ n chg news g d t os (wpOwn (model prog w) A c (.load a q k) Q E) := q_loadH (X _ (List.mem_of_getElem? e)) hc x
end
theorem not_t {b : Bool} (h : b = true) : (!b) = false := by rw [h]; rfl
theorem off_low {ad : Nat → Addr} {i b : Nat} (had : Offs ad) (hn : 120 < ad 0) (h : Nat.ble b 120 = true) : ad i ≠ b := by
  have := Nat.le_of_ble_eq_true h
  intro e; rw [had i] at e; exact absurd (Nat.lt_of_lt_of_le hn (Nat.le_add_right _ i)) (by rw [e]; omega)
end Mine
end
section
open PySem PySem.W PySem.W.X PySem.Calls PyProof.Rows
set_option Elab.async false
set_option maxRecDepth 100000
namespace Mine
noncomputable def postPB {α β : Type} (prog : Program) (w : World) (A : Around) (Q : α → Shared → Prop) (E : Value → Shared → Prop) (k : β → Sem α) : β → Shared → Prop := fun a s' => wpAny (model prog w) A (k a) Q E s'
noncomputable def postPT {α : Type} (prog : Program) (w : World) (A : Around) (Q : α → Shared → Prop) (E : Value → Shared → Prop) (k : Value → Sem α) : Value → Shared → Prop := fun e s' => wpAny (model prog w) A (k e) Q E s'
noncomputable def postPO (prog : Program) (w : World) (A : Around) (E : Value → Shared → Prop) (k : Value → Sem Unit) : Value → Shared → Prop := fun e s' => wpAny (model prog w) A (k e) (fun _ s'' => E e s'') E s'
section
variable {prog : Program} {w : World} {h₀ : Heap} {n : Nat → Addr} {g : Array GenState} {d : Drawn} {os : OsState} {chg news : List (Addr × Obj)} {t : Nat} {A : Around} {α : Type} {E : Value → Shared → Prop} {Q : α → Shared → Prop}
theorem p_dq {T T' : Sem α} (x : AtM h₀ n chg news g d t os (wpAny (model prog w) A T' Q E)) (e : T = T') : AtM h₀ n chg news g d t os (wpAny (model prog w) A T Q E) := e ▸ x
theorem p_ask {k : Setting → Sem α} (x : AtM h₀ n chg news g d t os (wpAny (model prog w) A (k ⟨prog, w.params⟩) Q E)) : AtM h₀ n chg news g d t os (wpAny (model prog w) A (.ask k) Q E) := fun h D z Γ p hΓ => x h D z Γ p hΓ
theorem p_pure {a : α} (x : AtM h₀ n chg news g d t os (Q a)) : AtM h₀ n chg news g d t os (wpAny (model prog w) A (Sem.pure a) Q E) := fun h D z => wpAny_pure (x h D z)
theorem p_unb {β : Type} {E' : Value → Shared → Prop} {k : β → Sem α} {a : β} (x : AtM h₀ n chg news g d t os (wpAny (model prog w) A (k a) Q E)) : AtM h₀ n chg news g d t os (wpAny (model prog w) A (Sem.pure a) (postPB prog w A Q E k) E') := p_pure x
theorem p_call {c' : Code} {hd : Option Value} {gd : Bool} {l : List Value} {k : Result → Sem α} (hnb : hd ≠ some byPass) (x : AtM h₀ n chg news g d t os (codeAny (model prog w) (A.mark hd) c' (postA prog w A Q E k))) : AtM h₀ n chg news g d t os (wpAny (model prog w) A (.call c' hd gd l k) Q E) := fun h D z => m_start hnb (x h D z)
theorem p_bind {β : Type} {T : Sem β} {k : β → Sem α} (x : AtM h₀ n chg news g d t os (wpAny (model prog w) A T (postPB prog w A Q E k) E)) : AtM h₀ n chg news g d t os (wpAny (model prog w) A (T.bind k) Q E) := fun h D z => wpAny_bind (m := T) (f := k) (x h D z)
theorem p_keep {T : Sem α} {vs : List Value} (x : AtM h₀ n chg news g d t os (wpAny (model prog w) A T Q E)) : AtM h₀ n chg news g d t os (wpAny (model prog w) A (T.keep vs) Q E) := fun h D z Γ p hΓ => by rw [Sem.wp_keep]; exact x h D z Γ p hΓ
theorem p_loadH {a : Addr} {q : Option Value} {k : Obj → Sem α} {o : Obj} (e : h₀.get? a = some o) (hc : (hasCls o || away chg a) = true) (x : AtM h₀ n chg news g d t os (wpAny (model prog w) A (k o) Q E)) : AtM h₀ n chg news g d t os (wpAny (model prog w) A (.load a q k) Q E) := fun h D z => wpAny_bind (m := loadPart a q) (f := k) (wpAny_loadPart (D.old _ _ e hc) (x h D z))
theorem p_follow {T : Sem α} {k : Value → Sem α} {b : Bool} (x : AtM h₀ n chg news g d t os (wpAny (model prog w) A T Q (fun _ _ => False))) : AtM h₀ n chg news g d t os (wpAny (model prog w) A (@Bool.rec (fun _ => Sem α) (T.tryCatch k) T b) Q E) := by
  cases b with
  | true => exact q_mono (fun _ y => wpAny_mono y (fun _ _ h => h) (fun _ _ h => h.elim)) x
  | false => exact q_mono (fun _ y => wpAny_tryCatch (wpAny_mono y (fun _ _ h => h) (fun _ _ h => h.elim))) x
theorem p_retA {k : Result → Sem α} {r : Result} (x : AtM h₀ n chg news g d t os (wpAny (model prog w) A (k r) Q E)) : AtM h₀ n chg news g d t os (postA prog w A Q E k r) := x
theorem p_loadL {a : Addr} {q : Option Value} {k : Obj → Sem α} {o : Obj} {L : List (Addr × Obj)} (X : ∀ p ∈ L, h₀.get? p.1 = some p.2) (i : Nat) (e : L[i]? = some (a, o)) (hc : (hasCls o || away chg a) = true) (x : AtM h₀ n chg news g d t os (wpAny (model prog w) A (k o) Q E)) : AtM h₀ n chg news g d t os (wpAny (model prog w) A (.load a q k) Q E) := p_loadH (X _ (List.mem_of_getElem? e)) hc x
theorem p_start {T : Sem α} (hn : h₀.objs.size = n 0) (x : AtM h₀ n [] [] g d t os (wpAny (model prog w) A T Q E)) : wpAny (model prog w) A T Q E ⟨h₀, g, d, t, os⟩ := x h₀ (Mem.start _) hn
theorem q_any {c' : Code} {A' : Around} {R : Result → Shared → Prop} (f : ∀ h, Mem h₀ h chg news → (∀ v h' tk, (∀ n', Offs n' → n' 0 = h'.objs.size → AtM h' n' [] [] g d tk os (R (.ok (.ret v)))) → R (.ok (.ret v)) ⟨h', g, d, tk, os⟩) → codeAny (model prog w) A' c' R ⟨h, g, d, t, os⟩) : AtM h₀ n chg news g d t os (codeAny (model prog w) A' c' R) := by
  intro h D z
  exact f h D fun v h' tk x => x (fun i => h'.objs.size + i) (fun i => rfl) rfl h' (Mem.start _) rfl
theorem frames_up {A A' : Around} {e : Env} {env : List Env} (h : A'.frames = A.frames.map (e :: ·)) (hfr : A.frames = some env) : A'.frames = some (e :: env) := by rw [h, hfr]; rfl
end
end Mine
end
section
open PySem PySem.W PySem.W.X PySem.Calls PyProof.Rows
set_option Elab.async false
set_option maxRecDepth 100000
namespace Mine
inductive VT (α : Type) where
  | load (a : Addr) (k : Obj → Sem α)
  | alloc (o : Obj) (k : Addr → Sem α)
  | upd (a : Addr) (f : Obj → Obj) (k : Unit → Sem α)
  | call (c : Code) (k : Result → Sem α)
  | stack (k : List (Code × Pos) → Sem α)
  | pure (a : α)
  | other
section
variable {α : Type}
noncomputable def goS (S : Setting) (hd : Option Value) (ih : Nat → Sem α → VT α × Nat) (t : Nat) (T : Sem α) : VT α × Nat := match T with
  | .rule _ k => ih t (k ())
  | .at _ k => ih t (k ())
  | .point _ k => ih t (k ())
  | .ask k => ih t (k S)
  | .handled false k => ih t (k hd)
  | .fresh k => ((ih (t + 1) (k t)).1, (ih (t + 1) (k t)).2 + 1)
  | .load a _ k => (.load a k, 0)
  | .alloc o k => (.alloc o k, 0)
  | .update a _ f k => (.upd a f k, 0)
  | .call c none _ _ k => (.call c k, 0)
  | .stack k => (.stack k, 0)
  | .pure a => (.pure a, 0)
  | _ => (.other, 0)
noncomputable def goF (S : Setting) (hd : Option Value) (n : Nat) : Nat → Sem α → VT α × Nat :=
  @Nat.rec (fun _ => Nat → Sem α → VT α × Nat) (fun _ _ => (.other, 0)) (fun _ ih => goS S hd ih) n
noncomputable def VT.back (T : Sem α) : VT α → Prop
  | .load a k => ∃ q, T = .load a q k
  | .alloc o k => T = .alloc o k
  | .upd a f k => ∃ q, T = .update a q f k
  | .call c k => ∃ g l, T = .call c none g l k
  | .stack k => T = .stack k
  | .pure a => T = .pure a
  | .other => True
noncomputable def iLoad (V : VT α) : Option Addr := match V with | .load a _ => some a | _ => none
noncomputable def kLoad (V : VT α) (o : Obj) : Sem α := match V with | .load _ k => k o | _ => .unsupported ""
noncomputable def iAlloc (V : VT α) : Bool := match V with | .alloc .. => true | _ => false
noncomputable def oAlloc (V : VT α) : Obj := match V with | .alloc o _ => o | _ => ⟨.none, none, .plain, #[]⟩
noncomputable def kAlloc (V : VT α) (a : Addr) : Sem α := match V with | .alloc _ k => k a | _ => .unsupported ""
noncomputable def iUpd (V : VT α) : Option Addr := match V with | .upd a _ _ => some a | _ => none
noncomputable def fUpd (V : VT α) : Obj → Obj := match V with | .upd _ f _ => f | _ => fun o => o
noncomputable def kUpd (V : VT α) : Sem α := match V with | .upd _ _ k => k () | _ => .unsupported ""
noncomputable def iCall (V : VT α) : Bool := match V with | .call .. => true | _ => false
noncomputable def cCall (V : VT α) : Code := match V with | .call c _ => c | _ => .call .none ⟨[], []⟩
noncomputable def kCall (V : VT α) (r : Result) : Sem α := match V with | .call _ k => k r | _ => .unsupported ""
noncomputable def iPure (V : VT α) : Bool := match V with | .pure _ => true | _ => false
noncomputable def kPure {β : Type} (V : VT β) (k : β → Sem α) : Sem α := match V with | .pure b => k b | _ => .unsupported ""
noncomputable def iStack (V : VT α) : Bool := match V with | .stack _ => true | _ => false
noncomputable def kStack (V : VT α) (st : List (Code × Pos)) : Sem α := match V with | .stack k => k st | _ => .unsupported ""
noncomputable def iDone (V : VT Fin) : Bool := match V with | .pure (.done _) => true | _ => false
noncomputable def fDone (V : VT Fin) : Flow := match V with | .pure (.done f) => f | _ => .next
noncomputable def iAgain (V : VT Fin) : Bool := match V with | .pure (.again c) => c.quiet | _ => false
noncomputable def cAgain (V : VT Fin) : Code := match V with | .pure (.again c) => c | _ => .call .none ⟨[], []⟩
noncomputable def G1 (S : Setting) (hd : Option Value) (t : Nat) (T : Sem α) : VT α := (goF S hd 60 t T).1
noncomputable def G2 (S : Setting) (hd : Option Value) (t : Nat) (T : Sem α) : Nat := (goF S hd 60 t T).2
noncomputable def zLoad (S : Setting) (hd : Option Value) (t : Nat) (T : Sem α) : Option Addr × Nat := (iLoad (G1 S hd t T), G2 S hd t T)
noncomputable def zAlloc (S : Setting) (hd : Option Value) (t : Nat) (T : Sem α) : Bool × Nat := (iAlloc (G1 S hd t T), G2 S hd t T)
noncomputable def zUpd (S : Setting) (hd : Option Value) (t : Nat) (T : Sem α) : Option Addr × Nat := (iUpd (G1 S hd t T), G2 S hd t T)
noncomputable def zCall (S : Setting) (hd : Option Value) (t : Nat) (T : Sem α) : Bool × Nat := (iCall (G1 S hd t T), G2 S hd t T)
noncomputable def zPure (S : Setting) (hd : Option Value) (t : Nat) (T : Sem α) : Bool × Nat := (iPure (G1 S hd t T), G2 S hd t T)
noncomputable def zStack (S : Setting) (hd : Option Value) (t : Nat) (T : Sem α) : Bool × Nat := (iStack (G1 S hd t T), G2 S hd t T)
noncomputable def zDone (S : Setting) (hd : Option Value) (t : Nat) (T : Sem Fin) : Bool × Nat := (iDone (G1 S hd t T), G2 S hd t T)
noncomputable def zAgain (S : Setting) (hd : Option Value) (t : Nat) (T : Sem Fin) : Bool × Nat := (iAgain (G1 S hd t T), G2 S hd t T)
theorem v_load {V : VT α} {T : Sem α} {a : Addr} (b : V.back T) (e : iLoad V = some a) : ∃ q, T = .load a q (kLoad V) := by
  cases V <;> first | (cases e; exact b) | cases e
theorem v_alloc {V : VT α} {T : Sem α} (b : V.back T) (e : iAlloc V = true) : T = .alloc (oAlloc V) (kAlloc V) := by
  cases V <;> first | exact b | cases e
theorem v_upd {V : VT α} {T : Sem α} {a : Addr} (b : V.back T) (e : iUpd V = some a) : ∃ q, T = .update a q (fUpd V) (fun _ => kUpd V) := by
  cases V <;> first | (cases e; exact b) | cases e
theorem v_call {V : VT α} {T : Sem α} (b : V.back T) (e : iCall V = true) : ∃ g l, T = .call (cCall V) none g l (kCall V) := by
  cases V <;> first | exact b | cases e
theorem v_stack {V : VT α} {T : Sem α} (b : V.back T) (e : iStack V = true) : T = .stack (kStack V) := by
  cases V <;> first | exact b | cases e
theorem v_pure {V : VT α} {T : Sem α} (b : V.back T) (e : iPure V = true) : ∃ a, T = .pure a ∧ V = .pure a := by
  cases V <;> first | exact ⟨_, b, rfl⟩ | cases e
theorem v_done {V : VT Fin} {T : Sem Fin} (b : V.back T) (e : iDone V = true) : T = .pure (.done (fDone V)) := by
  cases V with
  | pure f => cases f <;> first | exact b | cases e
  | _ => cases e
theorem v_again {V : VT Fin} {T : Sem Fin} (b : V.back T) (e : iAgain V = true) : T = .pure (.again (cAgain V)) ∧ (cAgain V).quiet = true := by
  cases V with
  | pure f => cases f <;> first | exact ⟨b, e⟩ | cases e
  | _ => cases e
end

section
variable {prog : Program} {w : World} {h₀ : Heap} {n : Nat → Addr} {g : Array GenState} {d : Drawn} {os : OsState} {α : Type} {A : Around} {c : Code} {Q : α → Shared → Prop} {E : Value → Shared → Prop} {chg news : List (Addr × Obj)} {t : Nat} {T : Sem α}
theorem z_go : ∀ (m t : Nat) (T : Sem α), (∀ T', (goF ⟨prog, w.params⟩ A.handled m t T).1.back T' → AtM h₀ n chg news g d (t + (goF ⟨prog, w.params⟩ A.handled m t T).2) os (wpOwn (model prog w) A c T' Q E)) → AtM h₀ n chg news g d t os (wpOwn (model prog w) A c T Q E) := by
  intro m
  induction m with
  | zero => intro t T x; exact x T trivial
  | succ m ih =>
    intro t T x
    cases T with
    | rule _ k => exact q_rule (ih _ _ x)
    | «at» _ k => exact q_at (ih _ _ x)
    | point _ k => exact q_point (ih _ _ x)
    | ask k => exact q_ask (ih _ _ x)
    | handled b k => cases b with
      | false => exact q_handled (ih _ _ x)
      | true => exact x _ trivial
    | fresh k => exact q_fresh (ih (t + 1) (k t) (fun T' b => Eq.mp (congrArg (fun z => AtM h₀ n chg news g d z os (wpOwn (model prog w) A c T' Q E)) (Nat.add_right_comm t _ 1 : t + (goF ⟨prog, w.params⟩ A.handled m (t + 1) (k t)).2 + 1 = _)) (x T' b)))
    | load a p k => exact x _ ⟨p, rfl⟩
    | update a p f k => exact x _ ⟨p, rfl⟩
    | call c h g l k => cases h with
      | none => exact x _ ⟨g, l, rfl⟩
      | some v => exact x _ trivial
    | alloc => exact x _ rfl
    | stack => exact x _ rfl
    | pure => exact x _ rfl
    | _ => exact x _ trivial
theorem z_g {P : VT α → Prop} {j : Nat} (e : G2 ⟨prog, w.params⟩ A.handled t T = j) (p : P (G1 ⟨prog, w.params⟩ A.handled t T)) (x : ∀ V T', V.back T' → P V → AtM h₀ n chg news g d (t + j) os (wpOwn (model prog w) A c T' Q E)) : AtM h₀ n chg news g d t os (wpOwn (model prog w) A c T Q E) := by
  subst e
  exact z_go 60 t T (fun T' b => x _ T' b p)
theorem z_loadI {a : Addr} {o : Obj} (j i : Nat) (e1 : zLoad ⟨prog, w.params⟩ A.handled t T = (some a, j)) (e : news[i]? = some (a, o)) (x : AtM h₀ n chg news g d (t + j) os (wpOwn (model prog w) A c (kLoad (G1 ⟨prog, w.params⟩ A.handled t T) o) Q E)) : AtM h₀ n chg news g d t os (wpOwn (model prog w) A c T Q E) := by
  refine z_g (P := fun V => iLoad V = some a ∧ (AtM h₀ n chg news g d (t + j) os (wpOwn (model prog w) A c (kLoad V o) Q E))) (show G2 ⟨prog, w.params⟩ A.handled t T = j from congrArg Prod.snd e1) ⟨congrArg Prod.fst e1, x⟩ ?_
  intro V T' b p
  obtain ⟨q, e⟩ := v_load b p.1
  rw [e]
  exact q_loadI i ‹_› p.2
theorem z_loadC {a : Addr} {o : Obj} (j i : Nat) (e1 : zLoad ⟨prog, w.params⟩ A.handled t T = (some a, j)) (e : chg[i]? = some (a, o)) (x : AtM h₀ n chg news g d (t + j) os (wpOwn (model prog w) A c (kLoad (G1 ⟨prog, w.params⟩ A.handled t T) o) Q E)) : AtM h₀ n chg news g d t os (wpOwn (model prog w) A c T Q E) := by
  refine z_g (P := fun V => iLoad V = some a ∧ (AtM h₀ n chg news g d (t + j) os (wpOwn (model prog w) A c (kLoad V o) Q E))) (show G2 ⟨prog, w.params⟩ A.handled t T = j from congrArg Prod.snd e1) ⟨congrArg Prod.fst e1, x⟩ ?_
  intro V T' b p
  obtain ⟨q, e⟩ := v_load b p.1
  rw [e]
  exact q_loadC i ‹_› p.2
theorem z_loadH {a : Addr} {o : Obj} (j : Nat) (e1 : zLoad ⟨prog, w.params⟩ A.handled t T = (some a, j)) (eh : h₀.get? a = some o) (hc : (hasCls o || away chg a) = true) (x : AtM h₀ n chg news g d (t + j) os (wpOwn (model prog w) A c (kLoad (G1 ⟨prog, w.params⟩ A.handled t T) o) Q E)) : AtM h₀ n chg news g d t os (wpOwn (model prog w) A c T Q E) := by
  refine z_g (P := fun V => iLoad V = some a ∧ (AtM h₀ n chg news g d (t + j) os (wpOwn (model prog w) A c (kLoad V o) Q E))) (show G2 ⟨prog, w.params⟩ A.handled t T = j from congrArg Prod.snd e1) ⟨congrArg Prod.fst e1, x⟩ ?_
  intro V T' b p
  obtain ⟨q, e⟩ := v_load b p.1
  rw [e]
  exact q_loadH eh hc p.2
theorem z_loadK {o : Obj} {K : Frag} (j : Nat) (a : Addr) (e1 : zLoad ⟨prog, w.params⟩ A.handled t T = (some a, j)) (X : K.In h₀) (eh : K.lookup a = some o) (hc : (hasCls o || away chg a) = true) (x : AtM h₀ n chg news g d (t + j) os (wpOwn (model prog w) A c (kLoad (G1 ⟨prog, w.params⟩ A.handled t T) o) Q E)) : AtM h₀ n chg news g d t os (wpOwn (model prog w) A c T Q E) := by
  refine z_g (P := fun V => iLoad V = some a ∧ (AtM h₀ n chg news g d (t + j) os (wpOwn (model prog w) A c (kLoad V o) Q E))) (show G2 ⟨prog, w.params⟩ A.handled t T = j from congrArg Prod.snd e1) ⟨congrArg Prod.fst e1, x⟩ ?_
  intro V T' b p
  obtain ⟨q, e⟩ := v_load b p.1
  rw [e]
  exact q_loadK X eh hc p.2
theorem z_loadL {a : Addr} {o : Obj} {L : List (Addr × Obj)} (j i : Nat) (e1 : zLoad ⟨prog, w.params⟩ A.handled t T = (some a, j)) (X : ∀ p ∈ L, h₀.get? p.1 = some p.2) (eh : L[i]? = some (a, o)) (hc : (hasCls o || away chg a) = true) (x : AtM h₀ n chg news g d (t + j) os (wpOwn (model prog w) A c (kLoad (G1 ⟨prog, w.params⟩ A.handled t T) o) Q E)) : AtM h₀ n chg news g d t os (wpOwn (model prog w) A c T Q E) := by
  refine z_g (P := fun V => iLoad V = some a ∧ (AtM h₀ n chg news g d (t + j) os (wpOwn (model prog w) A c (kLoad V o) Q E))) (show G2 ⟨prog, w.params⟩ A.handled t T = j from congrArg Prod.snd e1) ⟨congrArg Prod.fst e1, x⟩ ?_
  intro V T' b p
  obtain ⟨q, e⟩ := v_load b p.1
  rw [e]
  exact q_loadL X i eh hc p.2
theorem z_alloc {o' : Obj} (had : Offs n) (j m : Nat) (e1 : zAlloc ⟨prog, w.params⟩ A.handled t T = (true, j)) (eo : oAlloc (G1 ⟨prog, w.params⟩ A.handled t T) = o') (el : news.length = m) (hf : o'.isFreed = false) (x : AtM h₀ n chg ((n m, o') :: news) g d (t + j) os (wpOwn (model prog w) A c (kAlloc (G1 ⟨prog, w.params⟩ A.handled t T) (n m)) Q E)) : AtM h₀ n chg news g d t os (wpOwn (model prog w) A c T Q E) := by
  refine z_g (P := fun V => iAlloc V = true ∧ (AtM h₀ n chg ((n m, o') :: news) g d (t + j) os (wpOwn (model prog w) A c (kAlloc V (n m)) Q E)) ∧ oAlloc V = o') (show G2 ⟨prog, w.params⟩ A.handled t T = j from congrArg Prod.snd e1) ⟨congrArg Prod.fst e1, x, eo⟩ ?_
  intro V T' b p
  rw [v_alloc b p.1]
  exact q_alloc had m p.2.2 el hf p.2.1
theorem z_upd {a : Addr} {o o' : Obj} {f : Obj → Obj} {news' : List (Addr × Obj)} (j i : Nat) (e1 : zUpd ⟨prog, w.params⟩ A.handled t T = (some a, j)) (ei : news[i]? = some (a, o)) (ef : fUpd (G1 ⟨prog, w.params⟩ A.handled t T) = f) (ue : f o = o') (uf : o'.isFreed = false) (hn : news.set i (a, o') = news') (x : AtM h₀ n chg news' g d (t + j) os (wpOwn (model prog w) A c (kUpd (G1 ⟨prog, w.params⟩ A.handled t T)) Q E)) : AtM h₀ n chg news g d t os (wpOwn (model prog w) A c T Q E) := by
  refine z_g (P := fun V => iUpd V = some a ∧ (AtM h₀ n chg news' g d (t + j) os (wpOwn (model prog w) A c (kUpd V) Q E)) ∧ fUpd V = f) (show G2 ⟨prog, w.params⟩ A.handled t T = j from congrArg Prod.snd e1) ⟨congrArg Prod.fst e1, x, ef⟩ ?_
  intro V T' b p
  obtain ⟨q, e⟩ := v_upd b p.1
  rw [e, p.2.2]
  exact q_upd i ei ue uf hn p.2.1
theorem z_callC {c₂ : Code} (j : Nat) (e1 : zCall ⟨prog, w.params⟩ A.handled t T = (true, j)) (ec : cCall (G1 ⟨prog, w.params⟩ A.handled t T) = c₂) (x : AtM h₀ n chg news g d (t + j) os (wpOwn (model prog w) ((A.under c).mark none) c₂ (PySem.W.XFast.xw11892475500146522536 PySem.W.XFast.tableX c₂) (postC prog w ((A.under c).mark none) (postR prog w A c Q E (kCall (G1 ⟨prog, w.params⟩ A.handled t T)))) (postE (postR prog w A c Q E (kCall (G1 ⟨prog, w.params⟩ A.handled t T)))))) : AtM h₀ n chg news g d t os (wpOwn (model prog w) A c T Q E) := by
  refine z_g (P := fun V => iCall V = true ∧ (AtM h₀ n chg news g d (t + j) os (wpOwn (model prog w) ((A.under c).mark none) c₂ (PySem.W.XFast.xw11892475500146522536 PySem.W.XFast.tableX c₂) (postC prog w ((A.under c).mark none) (postR prog w A c Q E (kCall V))) (postE (postR prog w A c Q E (kCall V))))) ∧ cCall V = c₂) (show G2 ⟨prog, w.params⟩ A.handled t T = j from congrArg Prod.snd e1) ⟨congrArg Prod.fst e1, x, ec⟩ ?_
  intro V T' b p
  obtain ⟨g, l, e⟩ := v_call b p.1
  rw [e, p.2.2]
  exact q_call (Option.some_ne_none _).symm (q_code p.2.1)
theorem z_stack (j : Nat) (e1 : zStack ⟨prog, w.params⟩ A.handled t T = (true, j))  (x : ∀ st, Lies (A.under c) st → AtM h₀ n chg news g d (t + j) os (wpOwn (model prog w) A c (kStack (G1 ⟨prog, w.params⟩ A.handled t T) st) Q E)) : AtM h₀ n chg news g d t os (wpOwn (model prog w) A c T Q E) := by
  refine z_g (P := fun V => iStack V = true ∧ (∀ st, Lies (A.under c) st → AtM h₀ n chg news g d (t + j) os (wpOwn (model prog w) A c (kStack V st) Q E))) (show G2 ⟨prog, w.params⟩ A.handled t T = j from congrArg Prod.snd e1) ⟨congrArg Prod.fst e1, x⟩ ?_
  intro V T' b p
  rw [v_stack b p.1]
  exact q_stack p.2
theorem z_unb {β : Type} {E' : Value → Shared → Prop} {T : Sem β} {k : β → Sem α} (j : Nat) (e1 : zPure ⟨prog, w.params⟩ A.handled t T = (true, j)) (x : AtM h₀ n chg news g d (t + j) os (wpOwn (model prog w) A c (kPure (G1 ⟨prog, w.params⟩ A.handled t T) k) Q E)) : AtM h₀ n chg news g d t os (wpOwn (model prog w) A c T (postB prog w A c Q E k) E') := by
  refine z_g (P := fun V => iPure V = true ∧ AtM h₀ n chg news g d (t + j) os (wpOwn (model prog w) A c (kPure V k) Q E)) (show G2 ⟨prog, w.params⟩ A.handled t T = j from congrArg Prod.snd e1) ⟨congrArg Prod.fst e1, x⟩ ?_
  intro V T' b p
  obtain ⟨a, e, e'⟩ := v_pure b p.1
  subst e e'
  exact q_pure (q_retB p.2)
end

section
variable {prog : Program} {w : World} {h₀ : Heap} {n : Nat → Addr} {g : Array GenState} {d : Drawn} {os : OsState} {α : Type} {A A' A'' : Around} {c c' : Code} {Q : α → Shared → Prop} {E : Value → Shared → Prop} {R : Result → Shared → Prop} {E' : Value → Shared → Prop} {k : Result → Sem α} {chg news : List (Addr × Obj)} {t : Nat} {T : Sem Fin}
theorem z_done (j : Nat) (e1 : zDone ⟨prog, w.params⟩ A'.handled t T = (true, j)) (x : AtM h₀ n chg news g d (t + j) os (R (.ok (fDone (G1 ⟨prog, w.params⟩ A'.handled t T))))) : AtM h₀ n chg news g d t os (wpOwn (model prog w) A' c' T (postC prog w A'' R) E') := by
  refine z_g (P := fun V => iDone V = true ∧ AtM h₀ n chg news g d (t + j) os (R (.ok (fDone V)))) (show G2 ⟨prog, w.params⟩ A'.handled t T = j from congrArg Prod.snd e1) ⟨congrArg Prod.fst e1, x⟩ ?_
  intro V T' b p
  rw [v_done b p.1]
  exact q_pure (q_done p.2)
theorem z_ret (j : Nat) (e1 : zDone ⟨prog, w.params⟩ A'.handled t T = (true, j)) (x : AtM h₀ n chg news g d (t + j) os (wpOwn (model prog w) A c (k (.ok (fDone (G1 ⟨prog, w.params⟩ A'.handled t T)))) Q E)) : AtM h₀ n chg news g d t os (wpOwn (model prog w) A' c' T (postC prog w A'' (postR prog w A c Q E k)) E') :=
  z_done j e1 (q_ret x)
theorem z_againC {c₂ : Code} (j : Nat) (e1 : zAgain ⟨prog, w.params⟩ A'.handled t T = (true, j)) (ec : cAgain (G1 ⟨prog, w.params⟩ A'.handled t T) = c₂) (x : AtM h₀ n chg news g d (t + j) os (wpOwn (model prog w) A'' c₂ (PySem.W.XFast.xw11892475500146522536 PySem.W.XFast.tableX c₂) (postC prog w A'' R) (postE R))) : AtM h₀ n chg news g d t os (wpOwn (model prog w) A' c' T (postC prog w A'' R) E') := by
  refine z_g (P := fun V => iAgain V = true ∧ cAgain V = c₂) (show G2 ⟨prog, w.params⟩ A'.handled t T = j from congrArg Prod.snd e1) ⟨congrArg Prod.fst e1, ec⟩ ?_
  intro V T' b p
  have b := v_again b p.1
  rw [b.1]
  rw [p.2] at b ⊢
  exact q_pure (q_again b.2 (q_code x))
end
end Mine
end
section
open PySem PySem.W PySem.W.X PySem.Calls PyProof.Rows
set_option Elab.async false
set_option maxRecDepth 100000
set_option maxHeartbeats 0
namespace Mine

noncomputable def ckD : (n1 : World → Nat → Addr → (Nat → Addr) → List (Addr × Obj)) ×' (n2 : World → Nat → Addr → (Nat → Addr) → List (Addr × Obj)) ×'
    ∀ (w : World) (h₀ : Heap) (g₀ : Array GenState) (d₀ : Drawn) (t₀ : Nat) (os₀ : OsState) (F : Addr) (Q : Value → Shared → Prop) (E : Value → Shared → Prop) (A : Around) (c0 : Value) (d0 : Option Addr) (es0 : Array DictEntry) (ep0 : Nat) (sl0 : Array (Option Value)) (env : List Env) (ad : Nat → Addr) (sl4 : Array (Option Value)),
      (Mine.hd.heap_1 w.params).In h₀ → A.depth + 100 < recursionLimit → A.units + 200 < cLine → A.frames = some env → Offs ad → 120 < ad 0 → h₀.objs.size = ad 0 → h₀.TableAt 34 30 #[] → h₀.get? 30 = some (tableObj #[]) →
      h₀.get? 4 = some ⟨.type "module", some 0, .plain, sl4⟩ → h₀.get? 0 = some ⟨c0, d0, .dict es0 ep0, sl0⟩ → nsFind es0 (Str.ofString "__build_class__") = some (.builtin "__build_class__") → nsFind es0 (Str.ofString "object") = some (.type "object") →
      (∀ (h' : Heap) (tk : Nat), Mem h₀ h' (n2 w t₀ F ad) (n1 w t₀ F ad) → h'.objs.size = ad 64 → Q (.ref (ad 60)) ⟨h', g₀, d₀, tk, os₀⟩) →
      wpAny (model PySem.Challenge.rw_ny0103_01.row.prog w) A (call (.ref 35) [.ref F]) Q E ⟨h₀, g₀, d₀, t₀, os₀⟩ := by
  apply PSigma.mk
  apply PSigma.mk
  · intro w h₀ g₀ d₀ t₀ os₀ F Q E A c0 d0 es0 ep0 sl0 env ad sl4 KX hdp hun hfr had hlow hsz TA T30 M4 B0 H1 H2 HK
    with_unfolding_all refine q_start (by intro h; cases h) hsz ?_
    refine q_code ?_
    (with_reducible refine' z_loadK 0 35 ?e1 KX ?e ?hc ?_; (case e => with_unfolding_all exact rfl); (case e1 => kernel_rfl); (case hc => with_unfolding_all exact rfl))
    (with_reducible refine' z_loadK 0 34 ?e1 KX ?e ?hc ?_; (case e => with_unfolding_all exact rfl); (case e1 => kernel_rfl); (case hc => with_unfolding_all exact rfl))
    (with_reducible refine' z_alloc had 0 0 ?e1 ?eo ?el ?hf ?_; (case eo => (with_unfolding_all conv => (lhs; whnf; (try dsimp only)))); (case e1 => kernel_rfl); (case el => with_unfolding_all exact rfl); (case hf => with_unfolding_all exact rfl))
    (with_reducible refine' z_alloc had 0 1 ?e1 ?eo ?el ?hf ?_; (case eo => (with_unfolding_all conv => (lhs; whnf; (try dsimp only)))); (case e1 => kernel_rfl); (case el => with_unfolding_all exact rfl); (case hf => with_unfolding_all exact rfl))
    (with_reducible refine' z_loadI 0 0 ?e1 ?e ?_; (case e => with_unfolding_all exact rfl); (case e1 => kernel_rfl))
    (with_reducible refine' z_upd 0 0 ?e1 ?ei ?ef ?ue ?uf ?hn ?_; (case ei => with_unfolding_all exact rfl); (case ef => (with_unfolding_all conv => (lhs; whnf))); (case ue => ((with_unfolding_all conv => (lhs; whnf; (try dsimp only))); try rfl)); (case e1 => kernel_rfl); (case uf => with_unfolding_all exact rfl); (case hn => (conv => (lhs; simp only [List.set]))))
    (with_reducible refine' z_stack 0 ?e1 ?_; (case e1 => kernel_rfl); intro p l)
    (with_reducible refine' z_loadK 0 2 ?e1 KX ?e ?hc ?_; (case e => with_unfolding_all exact rfl); (case e1 => kernel_rfl); (case hc => with_unfolding_all exact rfl))
    (with_reducible refine' q_dq ?_ ?ne; (case ne => (with_unfolding_all conv => (lhs; whnf))))
    (with_reducible refine q_bind ?_; (repeat (first | (with_reducible refine q_bind ?_) | (with_reducible refine q_onRaise ?_) | (with_reducible refine q_keep ?_) | (with_reducible refine q_tryCatch ?_))); (with_reducible refine' q_dq ?_ ?ne; (case ne => (with_unfolding_all conv => (lhs; whnf)))))
    (with_reducible refine' z_unb 0 ?e1 ?_; (case e1 => kernel_rfl))
    (with_reducible refine' z_unb 0 ?e1 ?_; (case e1 => kernel_rfl))
    (with_reducible refine' z_unb 0 ?e1 ?_; (case e1 => kernel_rfl))
    (with_reducible refine' q_dq ?_ ?ne; (case ne => (with_unfolding_all conv => (lhs; whnf))))
    (with_reducible refine' q_dq ?_ ?ne; (case ne => (rw [near_f l (by refine dep0 ?_; (repeat (first | (with_reducible refine dep_mark ?_) | (with_reducible refine dep_under ?hw ?_; (case hw => kernel_rfl!)))); omega)])); (repeat (first | (with_reducible refine q_bind ?_) | (with_reducible refine q_onRaise ?_) | (with_reducible refine q_keep ?_) | (with_reducible refine q_tryCatch ?_))); (with_reducible refine' q_dq ?_ ?ne; (case ne => (with_unfolding_all conv => (lhs; whnf)))))
    (with_reducible refine' q_dq ?_ ?ne; (case ne => (rw [over_f l (by refine dep0 ?_; (repeat (first | (with_reducible refine dep_mark ?_) | (with_reducible refine dep_under ?hw ?_; (case hw => kernel_rfl!)))); omega)])); (repeat (first | (with_reducible refine q_bind ?_) | (with_reducible refine q_onRaise ?_) | (with_reducible refine q_keep ?_) | (with_reducible refine q_tryCatch ?_))); (with_reducible refine' q_dq ?_ ?ne; (case ne => (with_unfolding_all conv => (lhs; whnf)))))
    (with_reducible refine' q_dq ?_ ?ne; (case ne => (rw [warm_f l (by refine dep0 ?_; (repeat (first | (with_reducible refine dep_mark ?_) | (with_reducible refine dep_under ?hw ?_; (case hw => kernel_rfl!)))); omega)])); (repeat (first | (with_reducible refine q_bind ?_) | (with_reducible refine q_onRaise ?_) | (with_reducible refine q_keep ?_) | (with_reducible refine q_tryCatch ?_))); (with_reducible refine' q_dq ?_ ?ne; (case ne => (with_unfolding_all conv => (lhs; whnf)))))
    (with_reducible refine' z_unb 0 ?e1 ?_; (case e1 => kernel_rfl))
    (with_reducible refine' z_againC 0 ?e1 ?ec ?_; (case ec => (with_unfolding_all conv => (lhs; whnf; (try dsimp only)))); (case e1 => kernel_rfl))
    (with_reducible refine' z_loadH 0 ?e1 B0 (by first | exact rfl | exact or_r rfl) ?_; (case e1 => (show _ = (some 0, _)); kernel_rfl))
    (with_reducible refine' q_dq ?_ ?ne; (case ne => (with_unfolding_all conv => (lhs; whnf))))
    (with_reducible refine q_bind ?_; (repeat (first | (with_reducible refine q_bind ?_) | (with_reducible refine q_onRaise ?_) | (with_reducible refine q_keep ?_) | (with_reducible refine q_tryCatch ?_))); (with_reducible refine' q_dq ?_ ?ne; (case ne => (with_unfolding_all conv => (lhs; whnf)))))
    (with_reducible refine' z_unb 0 ?e1 ?_; (case e1 => kernel_rfl))
    (with_reducible refine' q_dq ?_ ?ne; (case ne => (with_unfolding_all conv => (lhs; whnf))))
    (refine q_ns H1 ?nn ?nl ?_; (case nn => kernel_rfl!); (case nl => kernel_rfl!); (repeat (first | (with_reducible refine q_bind ?_) | (with_reducible refine q_onRaise ?_) | (with_reducible refine q_keep ?_) | (with_reducible refine q_tryCatch ?_))); (with_reducible refine' q_dq ?_ ?ne; (case ne => (with_unfolding_all conv => (lhs; whnf)))))
    (with_reducible refine' z_unb 0 ?e1 ?_; (case e1 => kernel_rfl))
    (with_reducible refine' z_unb 0 ?e1 ?_; (case e1 => kernel_rfl))
    (with_reducible refine' z_loadK 0 3 ?e1 KX ?e ?hc ?_; (case e => with_unfolding_all exact rfl); (case e1 => kernel_rfl); (case hc => with_unfolding_all exact rfl))
    (with_reducible refine' z_loadH 0 ?e1 B0 (by first | exact rfl | exact or_r rfl) ?_; (case e1 => (show _ = (some 0, _)); kernel_rfl))
    (with_reducible refine' q_dq ?_ ?ne; (case ne => (with_unfolding_all conv => (lhs; whnf))))
    (with_reducible refine q_bind ?_; (repeat (first | (with_reducible refine q_bind ?_) | (with_reducible refine q_onRaise ?_) | (with_reducible refine q_keep ?_) | (with_reducible refine q_tryCatch ?_))); (with_reducible refine' q_dq ?_ ?ne; (case ne => (with_unfolding_all conv => (lhs; whnf)))))
    (with_reducible refine' z_unb 0 ?e1 ?_; (case e1 => kernel_rfl))
    (with_reducible refine' q_dq ?_ ?ne; (case ne => (with_unfolding_all conv => (lhs; whnf))))
    (refine q_ns H2 ?nn ?nl ?_; (case nn => kernel_rfl!); (case nl => kernel_rfl!); (repeat (first | (with_reducible refine q_bind ?_) | (with_reducible refine q_onRaise ?_) | (with_reducible refine q_keep ?_) | (with_reducible refine q_tryCatch ?_))); (with_reducible refine' q_dq ?_ ?ne; (case ne => (with_unfolding_all conv => (lhs; whnf)))))
    (with_reducible refine' z_unb 0 ?e1 ?_; (case e1 => kernel_rfl))
    (with_reducible refine' z_unb 0 ?e1 ?_; (case e1 => kernel_rfl))
    (with_reducible refine' z_unb 0 ?e1 ?_; (case e1 => kernel_rfl))
    (with_reducible refine' z_unb 0 ?e1 ?_; (case e1 => kernel_rfl))
    (with_reducible refine' z_alloc had 0 2 ?e1 ?eo ?el ?hf ?_; (case eo => (with_unfolding_all conv => (lhs; whnf; (try dsimp only)))); (case e1 => kernel_rfl); (case el => with_unfolding_all exact rfl); (case hf => with_unfolding_all exact rfl))
    (with_reducible refine' z_callC 2 ?e1 ?ec ?_; (case ec => (with_unfolding_all conv => (lhs; whnf; (try dsimp only)))); (case e1 => kernel_rfl))
    (with_reducible refine' z_againC 0 ?e1 ?ec ?_; (case ec => (with_unfolding_all conv => (lhs; whnf; (try dsimp only)))); (case e1 => kernel_rfl))
    (with_reducible refine' z_callC 0 ?e1 ?ec ?_; (case ec => (with_unfolding_all conv => (lhs; whnf; (try dsimp only)))); (case e1 => kernel_rfl))
    (with_reducible refine' z_againC 0 ?e1 ?ec ?_; (case ec => (with_unfolding_all conv => (lhs; whnf; (try dsimp only)))); (case e1 => kernel_rfl))
    (with_reducible refine' z_alloc had 0 3 ?e1 ?eo ?el ?hf ?_; (case eo => (with_unfolding_all conv => (lhs; whnf; (try dsimp only)))); (case e1 => kernel_rfl); (case el => with_unfolding_all exact rfl); (case hf => with_unfolding_all exact rfl))
    (with_reducible refine' z_ret 0 ?e1 ?_; (case e1 => kernel_rfl))
    (with_reducible refine' q_dq ?_ ?ne; (case ne => (with_unfolding_all conv => (lhs; whnf))))
    (with_reducible refine' z_ret 0 ?e1 ?_; (case e1 => kernel_rfl))
    (with_reducible refine' q_dq ?_ ?ne; (case ne => (with_unfolding_all conv => (lhs; whnf))))
    (with_reducible refine' z_callC 0 ?e1 ?ec ?_; (case ec => (with_unfolding_all conv => (lhs; whnf; (try dsimp only)))); (case e1 => kernel_rfl))
    (with_reducible refine' z_loadI 0 0 ?e1 ?e ?_; (case e => with_unfolding_all exact rfl); (case e1 => kernel_rfl))
    (with_reducible refine' z_againC 0 ?e1 ?ec ?_; (case ec => (with_unfolding_all conv => (lhs; whnf; (try dsimp only)))); (case e1 => kernel_rfl))
    (with_reducible refine' z_alloc had 0 4 ?e1 ?eo ?el ?hf ?_; (case eo => (with_unfolding_all conv => (lhs; whnf; (try dsimp only)))); (case e1 => kernel_rfl); (case el => with_unfolding_all exact rfl); (case hf => with_unfolding_all exact rfl))
    (with_reducible refine' z_ret 0 ?e1 ?_; (case e1 => kernel_rfl))
    (with_reducible refine' q_dq ?_ ?ne; (case ne => (with_unfolding_all conv => (lhs; whnf))))
    (with_reducible refine q_keep ?_; (repeat (first | (with_reducible refine q_bind ?_) | (with_reducible refine q_onRaise ?_) | (with_reducible refine q_keep ?_) | (with_reducible refine q_tryCatch ?_))); (with_reducible refine' q_dq ?_ ?ne; (case ne => (with_unfolding_all conv => (lhs; whnf)))))
    (with_reducible refine' z_unb 0 ?e1 ?_; (case e1 => kernel_rfl))
    (with_reducible refine' z_unb 0 ?e1 ?_; (case e1 => kernel_rfl))
    (with_reducible refine' q_dq ?_ ?ne; (case ne => (with_unfolding_all conv => (lhs; whnf))))
    (with_reducible refine q_bind ?_; (repeat (first | (with_reducible refine q_bind ?_) | (with_reducible refine q_onRaise ?_) | (with_reducible refine q_keep ?_) | (with_reducible refine q_tryCatch ?_))); (with_reducible refine' q_dq ?_ ?ne; (case ne => (with_unfolding_all conv => (lhs; whnf)))))
    (with_reducible refine' q_dq ?_ ?ne; (case ne => (rw [beq_no ?nq]; rotate_left; (case nq => (first | exact off_ne had rfl | exact off_low had hlow rfl | exact off_low' had hlow rfl | exact off_old had (by assumption) | exact off_old' had (by assumption))))); (repeat (first | (with_reducible refine q_bind ?_) | (with_reducible refine q_onRaise ?_) | (with_reducible refine q_keep ?_) | (with_reducible refine q_tryCatch ?_))); (with_reducible refine' q_dq ?_ ?ne; (case ne => (with_unfolding_all conv => (lhs; whnf)))))
    (with_reducible refine' z_unb 0 ?e1 ?_; (case e1 => kernel_rfl))
    (with_reducible refine' z_loadI 0 0 ?e1 ?e ?_; (case e => with_unfolding_all exact rfl); (case e1 => kernel_rfl))
    (with_reducible refine' z_loadK 0 34 ?e1 KX ?e ?hc ?_; (case e => with_unfolding_all exact rfl); (case e1 => kernel_rfl); (case hc => with_unfolding_all exact rfl))
    (with_reducible refine' z_loadH 0 ?e1 T30 (by first | exact rfl | exact or_r rfl) ?_; (case e1 => (show _ = (some 30, _)); kernel_rfl))
    (with_reducible refine' z_alloc had 4 5 ?e1 ?eo ?el ?hf ?_; (case eo => (with_unfolding_all conv => (lhs; whnf; (try dsimp only)))); (case e1 => kernel_rfl); (case el => with_unfolding_all exact rfl); (case hf => with_unfolding_all exact rfl))
    (with_reducible refine' z_alloc had 0 6 ?e1 ?eo ?el ?hf ?_; (case eo => (with_unfolding_all conv => (lhs; whnf; (try dsimp only)))); (case e1 => kernel_rfl); (case el => with_unfolding_all exact rfl); (case hf => with_unfolding_all exact rfl))
    (with_reducible refine' z_alloc had 2 7 ?e1 ?eo ?el ?hf ?_; (case eo => (with_unfolding_all conv => (lhs; whnf; (try dsimp only)))); (case e1 => kernel_rfl); (case el => with_unfolding_all exact rfl); (case hf => with_unfolding_all exact rfl))
    (with_reducible refine' z_loadH 0 ?e1 T30 (by first | exact rfl | exact or_r rfl) ?_; (case e1 => (show _ = (some 30, _)); kernel_rfl))
    (with_reducible refine' q_dq ?_ ?ne; (case ne => (with_unfolding_all conv => (lhs; whnf))))
    ((with_reducible refine' q_dq ?_ ?ne; (case ne => (with_unfolding_all conv => (lhs; arg 1; whnf)))); with_reducible refine' q_grow TA ?hw ?hn ?_; (case hw => with_unfolding_all exact rfl); (case hn => with_unfolding_all exact rfl); (repeat (first | (with_reducible refine q_bind ?_) | (with_reducible refine q_onRaise ?_) | (with_reducible refine q_keep ?_) | (with_reducible refine q_tryCatch ?_))); (with_reducible refine' q_dq ?_ ?ne; (case ne => (with_unfolding_all conv => (lhs; whnf)))))
    (with_reducible refine' z_unb 0 ?e1 ?_; (case e1 => kernel_rfl))
    (with_reducible refine' z_loadC 0 0 ?e1 ?e ?_; (case e => with_unfolding_all exact rfl); (case e1 => kernel_rfl))
    (with_reducible refine' q_dq ?_ ?ne; (case ne => (with_unfolding_all conv => (lhs; whnf))))
    (with_reducible refine' q_dq ?_ ?ne; (case ne => (rw [ca_some1 ?ch]; rotate_left; (case ch => kernel_rfl!))); (repeat (first | (with_reducible refine q_bind ?_) | (with_reducible refine q_onRaise ?_) | (with_reducible refine q_keep ?_) | (with_reducible refine q_tryCatch ?_))); (with_reducible refine' q_dq ?_ ?ne; (case ne => (with_unfolding_all conv => (lhs; whnf)))))
    (with_reducible refine' z_unb 0 ?e1 ?_; (case e1 => kernel_rfl))
    (with_reducible refine' z_loadK 0 3 ?e1 KX ?e ?hc ?_; (case e => with_unfolding_all exact rfl); (case e1 => kernel_rfl); (case hc => with_unfolding_all exact rfl))
    (with_reducible refine' z_loadH 0 ?e1 M4 (by first | exact rfl | exact or_r rfl) ?_; (case e1 => (show _ = (some 4, _)); kernel_rfl))
    (with_reducible refine' z_loadK 0 3 ?e1 KX ?e ?hc ?_; (case e => with_unfolding_all exact rfl); (case e1 => kernel_rfl); (case hc => with_unfolding_all exact rfl))
    (with_reducible refine' z_alloc had 0 8 ?e1 ?eo ?el ?hf ?_; (case eo => (with_unfolding_all conv => (lhs; whnf; (try dsimp only)))); (case e1 => kernel_rfl); (case el => with_unfolding_all exact rfl); (case hf => with_unfolding_all exact rfl))
    (with_reducible refine' z_stack 0 ?e1 ?_; (case e1 => kernel_rfl); intro p l)
    (with_reducible refine' z_loadK 0 2 ?e1 KX ?e ?hc ?_; (case e => with_unfolding_all exact rfl); (case e1 => kernel_rfl); (case hc => with_unfolding_all exact rfl))
    (with_reducible refine' q_dq ?_ ?ne; (case ne => (with_unfolding_all conv => (lhs; whnf))))
    (with_reducible refine q_keep ?_; (repeat (first | (with_reducible refine q_bind ?_) | (with_reducible refine q_onRaise ?_) | (with_reducible refine q_keep ?_) | (with_reducible refine q_tryCatch ?_))); (with_reducible refine' q_dq ?_ ?ne; (case ne => (with_unfolding_all conv => (lhs; whnf)))))
    (with_reducible refine' z_unb 0 ?e1 ?_; (case e1 => kernel_rfl))
    (with_reducible refine' z_unb 0 ?e1 ?_; (case e1 => kernel_rfl))
    (with_reducible refine' z_unb 0 ?e1 ?_; (case e1 => kernel_rfl))
    (with_reducible refine' q_dq ?_ ?ne; (case ne => (with_unfolding_all conv => (lhs; whnf))))
    (with_reducible refine' q_dq ?_ ?ne; (case ne => (rw [near_f l (by refine dep0 ?_; (repeat (first | (with_reducible refine dep_mark ?_) | (with_reducible refine dep_under ?hw ?_; (case hw => kernel_rfl!)))); omega)])); (repeat (first | (with_reducible refine q_bind ?_) | (with_reducible refine q_onRaise ?_) | (with_reducible refine q_keep ?_) | (with_reducible refine q_tryCatch ?_))); (with_reducible refine' q_dq ?_ ?ne; (case ne => (with_unfolding_all conv => (lhs; whnf)))))
    (with_reducible refine' q_dq ?_ ?ne; (case ne => (rw [over_f l (by refine dep0 ?_; (repeat (first | (with_reducible refine dep_mark ?_) | (with_reducible refine dep_under ?hw ?_; (case hw => kernel_rfl!)))); omega)])); (repeat (first | (with_reducible refine q_bind ?_) | (with_reducible refine q_onRaise ?_) | (with_reducible refine q_keep ?_) | (with_reducible refine q_tryCatch ?_))); (with_reducible refine' q_dq ?_ ?ne; (case ne => (with_unfolding_all conv => (lhs; whnf)))))
    (with_reducible refine' q_dq ?_ ?ne; (case ne => (rw [warm_f l (by refine dep0 ?_; (repeat (first | (with_reducible refine dep_mark ?_) | (with_reducible refine dep_under ?hw ?_; (case hw => kernel_rfl!)))); omega)])); (repeat (first | (with_reducible refine q_bind ?_) | (with_reducible refine q_onRaise ?_) | (with_reducible refine q_keep ?_) | (with_reducible refine q_tryCatch ?_))); (with_reducible refine' q_dq ?_ ?ne; (case ne => (with_unfolding_all conv => (lhs; whnf)))))
    (with_reducible refine' z_unb 0 ?e1 ?_; (case e1 => kernel_rfl))
    (with_reducible refine' z_loadI 0 4 ?e1 ?e ?_; (case e => with_unfolding_all exact rfl); (case e1 => kernel_rfl))
    (with_reducible refine' z_loadI 0 4 ?e1 ?e ?_; (case e => with_unfolding_all exact rfl); (case e1 => kernel_rfl))
    (with_reducible refine' z_loadK 0 3 ?e1 KX ?e ?hc ?_; (case e => with_unfolding_all exact rfl); (case e1 => kernel_rfl); (case hc => with_unfolding_all exact rfl))
    (with_reducible refine' z_loadI 0 4 ?e1 ?e ?_; (case e => with_unfolding_all exact rfl); (case e1 => kernel_rfl))
    (with_reducible refine' z_loadI 1 4 ?e1 ?e ?_; (case e => with_unfolding_all exact rfl); (case e1 => kernel_rfl))
    (with_reducible refine' z_upd 0 4 ?e1 ?ei ?ef ?ue ?uf ?hn ?_; (case ei => with_unfolding_all exact rfl); (case ef => (with_unfolding_all conv => (lhs; whnf))); (case ue => (with_reducible refine' obj_dict ?de ?dh ?dl; (case de => with_unfolding_all exact rfl); (case dh => with_unfolding_all exact rfl); (case dl => (repeat (first | (apply NL.nil; with_unfolding_all exact rfl) | (apply NL.cons; with_unfolding_all exact rfl; ((with_unfolding_all conv => (lhs; whnf; (try dsimp only))); try rfl))))))); (case e1 => kernel_rfl); (case uf => with_unfolding_all exact rfl); (case hn => (conv => (lhs; simp only [List.set]))))
    (with_reducible refine' z_loadI 1 4 ?e1 ?e ?_; (case e => with_unfolding_all exact rfl); (case e1 => kernel_rfl))
    (with_reducible refine' z_loadI 1 4 ?e1 ?e ?_; (case e => with_unfolding_all exact rfl); (case e1 => kernel_rfl))
    (with_reducible refine' z_upd 0 4 ?e1 ?ei ?ef ?ue ?uf ?hn ?_; (case ei => with_unfolding_all exact rfl); (case ef => (with_unfolding_all conv => (lhs; whnf))); (case ue => (with_reducible refine' obj_dict ?de ?dh ?dl; (case de => with_unfolding_all exact rfl); (case dh => with_unfolding_all exact rfl); (case dl => (repeat (first | (apply NL.nil; with_unfolding_all exact rfl) | (apply NL.cons; with_unfolding_all exact rfl; ((with_unfolding_all conv => (lhs; whnf; (try dsimp only))); try rfl))))))); (case e1 => kernel_rfl); (case uf => with_unfolding_all exact rfl); (case hn => (conv => (lhs; simp only [List.set]))))
    (with_reducible refine' z_loadI 1 4 ?e1 ?e ?_; (case e => with_unfolding_all exact rfl); (case e1 => kernel_rfl))
    (with_reducible refine' z_loadI 1 4 ?e1 ?e ?_; (case e => with_unfolding_all exact rfl); (case e1 => kernel_rfl))
    (with_reducible refine' z_upd 0 4 ?e1 ?ei ?ef ?ue ?uf ?hn ?_; (case ei => with_unfolding_all exact rfl); (case ef => (with_unfolding_all conv => (lhs; whnf))); (case ue => (with_reducible refine' obj_dict ?de ?dh ?dl; (case de => with_unfolding_all exact rfl); (case dh => with_unfolding_all exact rfl); (case dl => (repeat (first | (apply NL.nil; with_unfolding_all exact rfl) | (apply NL.cons; with_unfolding_all exact rfl; ((with_unfolding_all conv => (lhs; whnf; (try dsimp only))); try rfl))))))); (case e1 => kernel_rfl); (case uf => with_unfolding_all exact rfl); (case hn => (conv => (lhs; simp only [List.set]))))
    (with_reducible refine' z_callC 0 ?e1 ?ec ?_; (case ec => (with_unfolding_all conv => (lhs; whnf; (try dsimp only)))); (case e1 => kernel_rfl))
    (with_reducible refine' z_loadI 1 4 ?e1 ?e ?_; (case e => with_unfolding_all exact rfl); (case e1 => kernel_rfl))
    (with_reducible refine' z_loadI 1 4 ?e1 ?e ?_; (case e => with_unfolding_all exact rfl); (case e1 => kernel_rfl))
    (with_reducible refine' z_upd 0 4 ?e1 ?ei ?ef ?ue ?uf ?hn ?_; (case ei => with_unfolding_all exact rfl); (case ef => (with_unfolding_all conv => (lhs; whnf))); (case ue => (with_reducible refine' obj_dict ?de ?dh ?dl; (case de => with_unfolding_all exact rfl); (case dh => with_unfolding_all exact rfl); (case dl => (repeat (first | (apply NL.nil; with_unfolding_all exact rfl) | (apply NL.cons; with_unfolding_all exact rfl; ((with_unfolding_all conv => (lhs; whnf; (try dsimp only))); try rfl))))))); (case e1 => kernel_rfl); (case uf => with_unfolding_all exact rfl); (case hn => (conv => (lhs; simp only [List.set]))))
    (with_reducible refine' z_alloc had 1 9 ?e1 ?eo ?el ?hf ?_; (case eo => (with_unfolding_all conv => (lhs; whnf; (try dsimp only)))); (case e1 => kernel_rfl); (case el => with_unfolding_all exact rfl); (case hf => with_unfolding_all exact rfl))
    (with_reducible refine' z_loadI 0 5 ?e1 ?e ?_; (case e => with_unfolding_all exact rfl); (case e1 => kernel_rfl))
    (with_reducible refine' z_loadI 1 5 ?e1 ?e ?_; (case e => with_unfolding_all exact rfl); (case e1 => kernel_rfl))
    (with_reducible refine' z_upd 0 5 ?e1 ?ei ?ef ?ue ?uf ?hn ?_; (case ei => with_unfolding_all exact rfl); (case ef => (with_unfolding_all conv => (lhs; whnf))); (case ue => (with_reducible refine' obj_dict ?de ?dh ?dl; (case de => with_unfolding_all exact rfl); (case dh => with_unfolding_all exact rfl); (case dl => (repeat (first | (apply NL.nil; with_unfolding_all exact rfl) | (apply NL.cons; with_unfolding_all exact rfl; ((with_unfolding_all conv => (lhs; whnf; (try dsimp only))); try rfl))))))); (case e1 => kernel_rfl); (case uf => with_unfolding_all exact rfl); (case hn => (conv => (lhs; simp only [List.set]))))
    (with_reducible refine' z_loadI 0 2 ?e1 ?e ?_; (case e => with_unfolding_all exact rfl); (case e1 => kernel_rfl))
    (with_reducible refine' z_loadI 0 3 ?e1 ?e ?_; (case e => with_unfolding_all exact rfl); (case e1 => kernel_rfl))
    (with_reducible refine' z_alloc had 3 10 ?e1 ?eo ?el ?hf ?_; (case eo => (with_unfolding_all conv => (lhs; whnf; (try dsimp only)))); (case e1 => kernel_rfl); (case el => with_unfolding_all exact rfl); (case hf => with_unfolding_all exact rfl))
    (with_reducible refine' z_alloc had 0 11 ?e1 ?eo ?el ?hf ?_; (case eo => (with_unfolding_all conv => (lhs; whnf; (try dsimp only)))); (case e1 => kernel_rfl); (case el => with_unfolding_all exact rfl); (case hf => with_unfolding_all exact rfl))
    (with_reducible refine' z_alloc had 2 12 ?e1 ?eo ?el ?hf ?_; (case eo => (with_unfolding_all conv => (lhs; whnf; (try dsimp only)))); (case e1 => kernel_rfl); (case el => with_unfolding_all exact rfl); (case hf => with_unfolding_all exact rfl))
    (with_reducible refine' z_alloc had 0 13 ?e1 ?eo ?el ?hf ?_; (case eo => (with_unfolding_all conv => (lhs; whnf; (try dsimp only)))); (case e1 => kernel_rfl); (case el => with_unfolding_all exact rfl); (case hf => with_unfolding_all exact rfl))
    (with_reducible refine' z_alloc had 0 14 ?e1 ?eo ?el ?hf ?_; (case eo => (with_unfolding_all conv => (lhs; whnf; (try dsimp only)))); (case e1 => kernel_rfl); (case el => with_unfolding_all exact rfl); (case hf => with_unfolding_all exact rfl))
    (with_reducible refine' z_alloc had 2 15 ?e1 ?eo ?el ?hf ?_; (case eo => (with_unfolding_all conv => (lhs; whnf; (try dsimp only)))); (case e1 => kernel_rfl); (case el => with_unfolding_all exact rfl); (case hf => with_unfolding_all exact rfl))
    (with_reducible refine' z_loadI 0 9 ?e1 ?e ?_; (case e => with_unfolding_all exact rfl); (case e1 => kernel_rfl))
    (with_reducible refine' z_upd 0 9 ?e1 ?ei ?ef ?ue ?uf ?hn ?_; (case ei => with_unfolding_all exact rfl); (case ef => (with_unfolding_all conv => (lhs; whnf))); (case ue => (with_unfolding_all refine' regrow0 ?rh; (case rh => with_unfolding_all exact rfl))); (case e1 => kernel_rfl); (case uf => with_unfolding_all exact rfl); (case hn => (conv => (lhs; simp only [List.set]))))
    (with_reducible refine' z_loadI 0 9 ?e1 ?e ?_; (case e => with_unfolding_all exact rfl); (case e1 => kernel_rfl))
    (with_reducible refine' q_dq ?_ ?ne; (case ne => (with_unfolding_all conv => (lhs; whnf))))
    (with_reducible refine q_bind ?_; (repeat (first | (with_reducible refine q_bind ?_) | (with_reducible refine q_onRaise ?_) | (with_reducible refine q_keep ?_) | (with_reducible refine q_tryCatch ?_))); (with_reducible refine' q_dq ?_ ?ne; (case ne => (with_unfolding_all conv => (lhs; whnf)))))
    (with_reducible refine' z_unb 0 ?e1 ?_; (case e1 => kernel_rfl))
    (with_reducible refine' z_unb 0 ?e1 ?_; (case e1 => kernel_rfl))
    (with_reducible refine' q_dq ?_ ?ne; (case ne => (with_unfolding_all conv => (lhs; whnf))))
    (with_reducible refine' q_dq ?_ ?ne; (case ne => (rw [ca_some1 ?ch]; rotate_left; (case ch => kernel_rfl!))); (repeat (first | (with_reducible refine q_bind ?_) | (with_reducible refine q_onRaise ?_) | (with_reducible refine q_keep ?_) | (with_reducible refine q_tryCatch ?_))); (with_reducible refine' q_dq ?_ ?ne; (case ne => (with_unfolding_all conv => (lhs; whnf)))))
    (with_reducible refine' z_unb 0 ?e1 ?_; (case e1 => kernel_rfl))
    (with_reducible refine' z_loadK 0 3 ?e1 KX ?e ?hc ?_; (case e => with_unfolding_all exact rfl); (case e1 => kernel_rfl); (case hc => with_unfolding_all exact rfl))
    (with_reducible refine' z_loadH 0 ?e1 M4 (by first | exact rfl | exact or_r rfl) ?_; (case e1 => (show _ = (some 4, _)); kernel_rfl))
    (with_reducible refine' z_loadK 0 3 ?e1 KX ?e ?hc ?_; (case e => with_unfolding_all exact rfl); (case e1 => kernel_rfl); (case hc => with_unfolding_all exact rfl))
    (with_reducible refine' z_alloc had 0 16 ?e1 ?eo ?el ?hf ?_; (case eo => (with_unfolding_all conv => (lhs; whnf; (try dsimp only)))); (case e1 => kernel_rfl); (case el => with_unfolding_all exact rfl); (case hf => with_unfolding_all exact rfl))
    (with_reducible refine' z_unb 0 ?e1 ?_; (case e1 => kernel_rfl))
    (with_reducible refine' z_loadI 0 12 ?e1 ?e ?_; (case e => with_unfolding_all exact rfl); (case e1 => kernel_rfl))
    (with_reducible refine' z_loadI 1 12 ?e1 ?e ?_; (case e => with_unfolding_all exact rfl); (case e1 => kernel_rfl))
    (with_reducible refine' z_upd 0 12 ?e1 ?ei ?ef ?ue ?uf ?hn ?_; (case ei => with_unfolding_all exact rfl); (case ef => (with_unfolding_all conv => (lhs; whnf))); (case ue => (with_reducible refine' obj_dict ?de ?dh ?dl; (case de => with_unfolding_all exact rfl); (case dh => with_unfolding_all exact rfl); (case dl => (repeat (first | (apply NL.nil; with_unfolding_all exact rfl) | (apply NL.cons; with_unfolding_all exact rfl; ((with_unfolding_all conv => (lhs; whnf; (try dsimp only))); try rfl))))))); (case e1 => kernel_rfl); (case uf => with_unfolding_all exact rfl); (case hn => (conv => (lhs; simp only [List.set]))))
    (with_reducible refine' z_unb 0 ?e1 ?_; (case e1 => kernel_rfl))
    (with_reducible refine' z_alloc had 0 17 ?e1 ?eo ?el ?hf ?_; (case eo => (with_unfolding_all conv => (lhs; whnf; (try dsimp only)))); (case e1 => kernel_rfl); (case el => with_unfolding_all exact rfl); (case hf => with_unfolding_all exact rfl))
    (with_reducible refine' z_loadI 0 10 ?e1 ?e ?_; (case e => with_unfolding_all exact rfl); (case e1 => kernel_rfl))
    (with_reducible refine' z_loadI 0 11 ?e1 ?e ?_; (case e => with_unfolding_all exact rfl); (case e1 => kernel_rfl))
    (with_reducible refine' q_dq ?_ ?ne; (case ne => (with_unfolding_all conv => (lhs; whnf))))
    (with_reducible refine q_bind ?_; (repeat (first | (with_reducible refine q_bind ?_) | (with_reducible refine q_onRaise ?_) | (with_reducible refine q_keep ?_) | (with_reducible refine q_tryCatch ?_))); (with_reducible refine' q_dq ?_ ?ne; (case ne => (with_unfolding_all conv => (lhs; whnf)))))
    (with_reducible refine' z_unb 0 ?e1 ?_; (case e1 => kernel_rfl))
    (with_reducible refine' z_unb 0 ?e1 ?_; (case e1 => kernel_rfl))
    (with_reducible refine' q_dq ?_ ?ne; (case ne => (with_unfolding_all conv => (lhs; whnf))))
    (with_reducible refine' q_dq ?_ ?ne; (case ne => (rw [ca_none ?ch]; rotate_left; (case ch => kernel_rfl!))); (repeat (first | (with_reducible refine q_bind ?_) | (with_reducible refine q_onRaise ?_) | (with_reducible refine q_keep ?_) | (with_reducible refine q_tryCatch ?_))); (with_reducible refine' q_dq ?_ ?ne; (case ne => (with_unfolding_all conv => (lhs; whnf)))))
    (with_reducible refine' z_alloc had 4 18 ?e1 ?eo ?el ?hf ?_; (case eo => (with_unfolding_all conv => (lhs; whnf; (try dsimp only)))); (case e1 => kernel_rfl); (case el => with_unfolding_all exact rfl); (case hf => with_unfolding_all exact rfl))
    (with_reducible refine' z_alloc had 0 19 ?e1 ?eo ?el ?hf ?_; (case eo => (with_unfolding_all conv => (lhs; whnf; (try dsimp only)))); (case e1 => kernel_rfl); (case el => with_unfolding_all exact rfl); (case hf => with_unfolding_all exact rfl))
    (with_reducible refine' z_alloc had 2 20 ?e1 ?eo ?el ?hf ?_; (case eo => (with_unfolding_all conv => (lhs; whnf; (try dsimp only)))); (case e1 => kernel_rfl); (case el => with_unfolding_all exact rfl); (case hf => with_unfolding_all exact rfl))
    (with_reducible refine' z_alloc had 0 21 ?e1 ?eo ?el ?hf ?_; (case eo => (with_unfolding_all conv => (lhs; whnf; (try dsimp only)))); (case e1 => kernel_rfl); (case el => with_unfolding_all exact rfl); (case hf => with_unfolding_all exact rfl))
    (with_reducible refine' z_alloc had 0 22 ?e1 ?eo ?el ?hf ?_; (case eo => (with_unfolding_all conv => (lhs; whnf; (try dsimp only)))); (case e1 => kernel_rfl); (case el => with_unfolding_all exact rfl); (case hf => with_unfolding_all exact rfl))
    (with_reducible refine' z_alloc had 2 23 ?e1 ?eo ?el ?hf ?_; (case eo => (with_unfolding_all conv => (lhs; whnf; (try dsimp only)))); (case e1 => kernel_rfl); (case el => with_unfolding_all exact rfl); (case hf => with_unfolding_all exact rfl))
    (with_reducible refine' z_loadI 0 17 ?e1 ?e ?_; (case e => with_unfolding_all exact rfl); (case e1 => kernel_rfl))
    (with_reducible refine' z_upd 0 17 ?e1 ?ei ?ef ?ue ?uf ?hn ?_; (case ei => with_unfolding_all exact rfl); (case ef => (with_unfolding_all conv => (lhs; whnf))); (case ue => (with_unfolding_all refine' regrow_hn2 ?rh; (case rh => kernel_rfl!))); (case e1 => kernel_rfl); (case uf => with_unfolding_all exact rfl); (case hn => (conv => (lhs; simp only [List.set]))))
    (with_reducible refine' z_loadI 0 17 ?e1 ?e ?_; (case e => with_unfolding_all exact rfl); (case e1 => kernel_rfl))
    (with_reducible refine' q_dq ?_ ?ne; (case ne => (with_unfolding_all conv => (lhs; whnf))))
    (with_reducible refine' q_dq ?_ ?ne; (case ne => (rw [ca_some ?ch]; rotate_left; (case ch => kernel_rfl!))); (repeat (first | (with_reducible refine q_bind ?_) | (with_reducible refine q_onRaise ?_) | (with_reducible refine q_keep ?_) | (with_reducible refine q_tryCatch ?_))); (with_reducible refine' q_dq ?_ ?ne; (case ne => (with_unfolding_all conv => (lhs; whnf)))))
    (with_reducible refine' z_unb 0 ?e1 ?_; (case e1 => kernel_rfl))
    (with_reducible refine' z_loadK 0 3 ?e1 KX ?e ?hc ?_; (case e => with_unfolding_all exact rfl); (case e1 => kernel_rfl); (case hc => with_unfolding_all exact rfl))
    (with_reducible refine' z_loadH 0 ?e1 M4 (by first | exact rfl | exact or_r rfl) ?_; (case e1 => (show _ = (some 4, _)); kernel_rfl))
    (with_reducible refine' z_loadK 0 3 ?e1 KX ?e ?hc ?_; (case e => with_unfolding_all exact rfl); (case e1 => kernel_rfl); (case hc => with_unfolding_all exact rfl))
    (with_reducible refine' z_alloc had 0 24 ?e1 ?eo ?el ?hf ?_; (case eo => (with_unfolding_all conv => (lhs; whnf; (try dsimp only)))); (case e1 => kernel_rfl); (case el => with_unfolding_all exact rfl); (case hf => with_unfolding_all exact rfl))
    (with_reducible refine' z_unb 0 ?e1 ?_; (case e1 => kernel_rfl))
    (with_reducible refine' z_loadI 0 20 ?e1 ?e ?_; (case e => with_unfolding_all exact rfl); (case e1 => kernel_rfl))
    (with_reducible refine' z_loadI 1 20 ?e1 ?e ?_; (case e => with_unfolding_all exact rfl); (case e1 => kernel_rfl))
    (with_reducible refine' z_upd 0 20 ?e1 ?ei ?ef ?ue ?uf ?hn ?_; (case ei => with_unfolding_all exact rfl); (case ef => (with_unfolding_all conv => (lhs; whnf))); (case ue => (with_reducible refine' obj_dict ?de ?dh ?dl; (case de => with_unfolding_all exact rfl); (case dh => with_unfolding_all exact rfl); (case dl => (repeat (first | (apply NL.nil; with_unfolding_all exact rfl) | (apply NL.cons; with_unfolding_all exact rfl; ((with_unfolding_all conv => (lhs; whnf; (try dsimp only))); try rfl))))))); (case e1 => kernel_rfl); (case uf => with_unfolding_all exact rfl); (case hn => (conv => (lhs; simp only [List.set]))))
    (with_reducible refine' z_unb 0 ?e1 ?_; (case e1 => kernel_rfl))
    (with_reducible refine' z_alloc had 0 25 ?e1 ?eo ?el ?hf ?_; (case eo => (with_unfolding_all conv => (lhs; whnf; (try dsimp only)))); (case e1 => kernel_rfl); (case el => with_unfolding_all exact rfl); (case hf => with_unfolding_all exact rfl))
    (with_reducible refine' z_loadI 0 18 ?e1 ?e ?_; (case e => with_unfolding_all exact rfl); (case e1 => kernel_rfl))
    (with_reducible refine' z_loadI 0 19 ?e1 ?e ?_; (case e => with_unfolding_all exact rfl); (case e1 => kernel_rfl))
    (with_reducible refine' q_dq ?_ ?ne; (case ne => (with_unfolding_all conv => (lhs; whnf))))
    (with_reducible refine q_bind ?_; (repeat (first | (with_reducible refine q_bind ?_) | (with_reducible refine q_onRaise ?_) | (with_reducible refine q_keep ?_) | (with_reducible refine q_tryCatch ?_))); (with_reducible refine' q_dq ?_ ?ne; (case ne => (with_unfolding_all conv => (lhs; whnf)))))
    (with_reducible refine' z_unb 0 ?e1 ?_; (case e1 => kernel_rfl))
    (with_reducible refine' z_unb 0 ?e1 ?_; (case e1 => kernel_rfl))
    (with_reducible refine' q_dq ?_ ?ne; (case ne => (with_unfolding_all conv => (lhs; whnf))))
    (with_reducible refine' q_dq ?_ ?ne; (case ne => (rw [ca_none ?ch]; rotate_left; (case ch => kernel_rfl!))); (repeat (first | (with_reducible refine q_bind ?_) | (with_reducible refine q_onRaise ?_) | (with_reducible refine q_keep ?_) | (with_reducible refine q_tryCatch ?_))); (with_reducible refine' q_dq ?_ ?ne; (case ne => (with_unfolding_all conv => (lhs; whnf)))))
    (with_reducible refine' z_alloc had 4 26 ?e1 ?eo ?el ?hf ?_; (case eo => (with_unfolding_all conv => (lhs; whnf; (try dsimp only)))); (case e1 => kernel_rfl); (case el => with_unfolding_all exact rfl); (case hf => with_unfolding_all exact rfl))
    (with_reducible refine' z_alloc had 0 27 ?e1 ?eo ?el ?hf ?_; (case eo => (with_unfolding_all conv => (lhs; whnf; (try dsimp only)))); (case e1 => kernel_rfl); (case el => with_unfolding_all exact rfl); (case hf => with_unfolding_all exact rfl))
    (with_reducible refine' z_alloc had 2 28 ?e1 ?eo ?el ?hf ?_; (case eo => (with_unfolding_all conv => (lhs; whnf; (try dsimp only)))); (case e1 => kernel_rfl); (case el => with_unfolding_all exact rfl); (case hf => with_unfolding_all exact rfl))
    (with_reducible refine' z_alloc had 0 29 ?e1 ?eo ?el ?hf ?_; (case eo => (with_unfolding_all conv => (lhs; whnf; (try dsimp only)))); (case e1 => kernel_rfl); (case el => with_unfolding_all exact rfl); (case hf => with_unfolding_all exact rfl))
    (with_reducible refine' z_alloc had 0 30 ?e1 ?eo ?el ?hf ?_; (case eo => (with_unfolding_all conv => (lhs; whnf; (try dsimp only)))); (case e1 => kernel_rfl); (case el => with_unfolding_all exact rfl); (case hf => with_unfolding_all exact rfl))
    (with_reducible refine' z_alloc had 2 31 ?e1 ?eo ?el ?hf ?_; (case eo => (with_unfolding_all conv => (lhs; whnf; (try dsimp only)))); (case e1 => kernel_rfl); (case el => with_unfolding_all exact rfl); (case hf => with_unfolding_all exact rfl))
    (with_reducible refine' z_loadI 0 25 ?e1 ?e ?_; (case e => with_unfolding_all exact rfl); (case e1 => kernel_rfl))
    (with_reducible refine' z_upd 0 25 ?e1 ?ei ?ef ?ue ?uf ?hn ?_; (case ei => with_unfolding_all exact rfl); (case ef => (with_unfolding_all conv => (lhs; whnf))); (case ue => (with_unfolding_all refine' regrow_hn2 ?rh; (case rh => kernel_rfl!))); (case e1 => kernel_rfl); (case uf => with_unfolding_all exact rfl); (case hn => (conv => (lhs; simp only [List.set]))))
    (with_reducible refine' z_loadI 0 25 ?e1 ?e ?_; (case e => with_unfolding_all exact rfl); (case e1 => kernel_rfl))
    (with_reducible refine' q_dq ?_ ?ne; (case ne => (with_unfolding_all conv => (lhs; whnf))))
    (with_reducible refine' q_dq ?_ ?ne; (case ne => (rw [ca_some ?ch]; rotate_left; (case ch => kernel_rfl!))); (repeat (first | (with_reducible refine q_bind ?_) | (with_reducible refine q_onRaise ?_) | (with_reducible refine q_keep ?_) | (with_reducible refine q_tryCatch ?_))); (with_reducible refine' q_dq ?_ ?ne; (case ne => (with_unfolding_all conv => (lhs; whnf)))))
    (with_reducible refine' z_unb 0 ?e1 ?_; (case e1 => kernel_rfl))
    (with_reducible refine' z_loadK 0 3 ?e1 KX ?e ?hc ?_; (case e => with_unfolding_all exact rfl); (case e1 => kernel_rfl); (case hc => with_unfolding_all exact rfl))
    (with_reducible refine' z_loadH 0 ?e1 M4 (by first | exact rfl | exact or_r rfl) ?_; (case e1 => (show _ = (some 4, _)); kernel_rfl))
    (with_reducible refine' z_loadK 0 3 ?e1 KX ?e ?hc ?_; (case e => with_unfolding_all exact rfl); (case e1 => kernel_rfl); (case hc => with_unfolding_all exact rfl))
    (with_reducible refine' z_alloc had 0 32 ?e1 ?eo ?el ?hf ?_; (case eo => (with_unfolding_all conv => (lhs; whnf; (try dsimp only)))); (case e1 => kernel_rfl); (case el => with_unfolding_all exact rfl); (case hf => with_unfolding_all exact rfl))
    (with_reducible refine' z_unb 0 ?e1 ?_; (case e1 => kernel_rfl))
    (with_reducible refine' z_loadI 0 28 ?e1 ?e ?_; (case e => with_unfolding_all exact rfl); (case e1 => kernel_rfl))
    (with_reducible refine' z_loadI 1 28 ?e1 ?e ?_; (case e => with_unfolding_all exact rfl); (case e1 => kernel_rfl))
    (with_reducible refine' z_upd 0 28 ?e1 ?ei ?ef ?ue ?uf ?hn ?_; (case ei => with_unfolding_all exact rfl); (case ef => (with_unfolding_all conv => (lhs; whnf))); (case ue => (with_reducible refine' obj_dict ?de ?dh ?dl; (case de => with_unfolding_all exact rfl); (case dh => with_unfolding_all exact rfl); (case dl => (repeat (first | (apply NL.nil; with_unfolding_all exact rfl) | (apply NL.cons; with_unfolding_all exact rfl; ((with_unfolding_all conv => (lhs; whnf; (try dsimp only))); try rfl))))))); (case e1 => kernel_rfl); (case uf => with_unfolding_all exact rfl); (case hn => (conv => (lhs; simp only [List.set]))))
    (with_reducible refine' z_unb 0 ?e1 ?_; (case e1 => kernel_rfl))
    (with_reducible refine' z_alloc had 0 33 ?e1 ?eo ?el ?hf ?_; (case eo => (with_unfolding_all conv => (lhs; whnf; (try dsimp only)))); (case e1 => kernel_rfl); (case el => with_unfolding_all exact rfl); (case hf => with_unfolding_all exact rfl))
    (with_reducible refine' z_loadI 0 26 ?e1 ?e ?_; (case e => with_unfolding_all exact rfl); (case e1 => kernel_rfl))
    (with_reducible refine' z_loadI 0 27 ?e1 ?e ?_; (case e => with_unfolding_all exact rfl); (case e1 => kernel_rfl))
    (with_reducible refine' q_dq ?_ ?ne; (case ne => (with_unfolding_all conv => (lhs; whnf))))
    (with_reducible refine q_bind ?_; (repeat (first | (with_reducible refine q_bind ?_) | (with_reducible refine q_onRaise ?_) | (with_reducible refine q_keep ?_) | (with_reducible refine q_tryCatch ?_))); (with_reducible refine' q_dq ?_ ?ne; (case ne => (with_unfolding_all conv => (lhs; whnf)))))
    (with_reducible refine' z_unb 0 ?e1 ?_; (case e1 => kernel_rfl))
    (with_reducible refine' z_unb 0 ?e1 ?_; (case e1 => kernel_rfl))
    (with_reducible refine' q_dq ?_ ?ne; (case ne => (with_unfolding_all conv => (lhs; whnf))))
    (with_reducible refine' q_dq ?_ ?ne; (case ne => (rw [ca_none ?ch]; rotate_left; (case ch => kernel_rfl!))); (repeat (first | (with_reducible refine q_bind ?_) | (with_reducible refine q_onRaise ?_) | (with_reducible refine q_keep ?_) | (with_reducible refine q_tryCatch ?_))); (with_reducible refine' q_dq ?_ ?ne; (case ne => (with_unfolding_all conv => (lhs; whnf)))))
    (with_reducible refine' z_alloc had 4 34 ?e1 ?eo ?el ?hf ?_; (case eo => (with_unfolding_all conv => (lhs; whnf; (try dsimp only)))); (case e1 => kernel_rfl); (case el => with_unfolding_all exact rfl); (case hf => with_unfolding_all exact rfl))
    (with_reducible refine' z_alloc had 0 35 ?e1 ?eo ?el ?hf ?_; (case eo => (with_unfolding_all conv => (lhs; whnf; (try dsimp only)))); (case e1 => kernel_rfl); (case el => with_unfolding_all exact rfl); (case hf => with_unfolding_all exact rfl))
    (with_reducible refine' z_alloc had 2 36 ?e1 ?eo ?el ?hf ?_; (case eo => (with_unfolding_all conv => (lhs; whnf; (try dsimp only)))); (case e1 => kernel_rfl); (case el => with_unfolding_all exact rfl); (case hf => with_unfolding_all exact rfl))
    (with_reducible refine' z_alloc had 0 37 ?e1 ?eo ?el ?hf ?_; (case eo => (with_unfolding_all conv => (lhs; whnf; (try dsimp only)))); (case e1 => kernel_rfl); (case el => with_unfolding_all exact rfl); (case hf => with_unfolding_all exact rfl))
    (with_reducible refine' z_alloc had 0 38 ?e1 ?eo ?el ?hf ?_; (case eo => (with_unfolding_all conv => (lhs; whnf; (try dsimp only)))); (case e1 => kernel_rfl); (case el => with_unfolding_all exact rfl); (case hf => with_unfolding_all exact rfl))
    (with_reducible refine' z_alloc had 2 39 ?e1 ?eo ?el ?hf ?_; (case eo => (with_unfolding_all conv => (lhs; whnf; (try dsimp only)))); (case e1 => kernel_rfl); (case el => with_unfolding_all exact rfl); (case hf => with_unfolding_all exact rfl))
    (with_reducible refine' z_loadI 0 33 ?e1 ?e ?_; (case e => with_unfolding_all exact rfl); (case e1 => kernel_rfl))
    (with_reducible refine' z_upd 0 33 ?e1 ?ei ?ef ?ue ?uf ?hn ?_; (case ei => with_unfolding_all exact rfl); (case ef => (with_unfolding_all conv => (lhs; whnf))); (case ue => (with_unfolding_all refine' regrow_hn2 ?rh; (case rh => kernel_rfl!))); (case e1 => kernel_rfl); (case uf => with_unfolding_all exact rfl); (case hn => (conv => (lhs; simp only [List.set]))))
    (with_reducible refine' z_loadI 0 33 ?e1 ?e ?_; (case e => with_unfolding_all exact rfl); (case e1 => kernel_rfl))
    (with_reducible refine' q_dq ?_ ?ne; (case ne => (with_unfolding_all conv => (lhs; whnf))))
    (with_reducible refine' q_dq ?_ ?ne; (case ne => (rw [ca_some ?ch]; rotate_left; (case ch => kernel_rfl!))); (repeat (first | (with_reducible refine q_bind ?_) | (with_reducible refine q_onRaise ?_) | (with_reducible refine q_keep ?_) | (with_reducible refine q_tryCatch ?_))); (with_reducible refine' q_dq ?_ ?ne; (case ne => (with_unfolding_all conv => (lhs; whnf)))))
    (with_reducible refine' z_unb 0 ?e1 ?_; (case e1 => kernel_rfl))
    (with_reducible refine' z_loadK 0 3 ?e1 KX ?e ?hc ?_; (case e => with_unfolding_all exact rfl); (case e1 => kernel_rfl); (case hc => with_unfolding_all exact rfl))
    (with_reducible refine' z_loadH 0 ?e1 M4 (by first | exact rfl | exact or_r rfl) ?_; (case e1 => (show _ = (some 4, _)); kernel_rfl))
    (with_reducible refine' z_loadK 0 3 ?e1 KX ?e ?hc ?_; (case e => with_unfolding_all exact rfl); (case e1 => kernel_rfl); (case hc => with_unfolding_all exact rfl))
    (with_reducible refine' z_alloc had 0 40 ?e1 ?eo ?el ?hf ?_; (case eo => (with_unfolding_all conv => (lhs; whnf; (try dsimp only)))); (case e1 => kernel_rfl); (case el => with_unfolding_all exact rfl); (case hf => with_unfolding_all exact rfl))
    (with_reducible refine' z_unb 0 ?e1 ?_; (case e1 => kernel_rfl))
    (with_reducible refine' z_loadI 0 36 ?e1 ?e ?_; (case e => with_unfolding_all exact rfl); (case e1 => kernel_rfl))
    (with_reducible refine' z_loadI 1 36 ?e1 ?e ?_; (case e => with_unfolding_all exact rfl); (case e1 => kernel_rfl))
    (with_reducible refine' z_upd 0 36 ?e1 ?ei ?ef ?ue ?uf ?hn ?_; (case ei => with_unfolding_all exact rfl); (case ef => (with_unfolding_all conv => (lhs; whnf))); (case ue => (with_reducible refine' obj_dict ?de ?dh ?dl; (case de => with_unfolding_all exact rfl); (case dh => with_unfolding_all exact rfl); (case dl => (repeat (first | (apply NL.nil; with_unfolding_all exact rfl) | (apply NL.cons; with_unfolding_all exact rfl; ((with_unfolding_all conv => (lhs; whnf; (try dsimp only))); try rfl))))))); (case e1 => kernel_rfl); (case uf => with_unfolding_all exact rfl); (case hn => (conv => (lhs; simp only [List.set]))))
    (with_reducible refine' z_unb 0 ?e1 ?_; (case e1 => kernel_rfl))
    (with_reducible refine' z_alloc had 0 41 ?e1 ?eo ?el ?hf ?_; (case eo => (with_unfolding_all conv => (lhs; whnf; (try dsimp only)))); (case e1 => kernel_rfl); (case el => with_unfolding_all exact rfl); (case hf => with_unfolding_all exact rfl))
    (with_reducible refine' z_loadI 0 34 ?e1 ?e ?_; (case e => with_unfolding_all exact rfl); (case e1 => kernel_rfl))
    (with_reducible refine' z_loadI 0 35 ?e1 ?e ?_; (case e => with_unfolding_all exact rfl); (case e1 => kernel_rfl))
    (with_reducible refine' q_dq ?_ ?ne; (case ne => (with_unfolding_all conv => (lhs; whnf))))
    (with_reducible refine q_bind ?_; (repeat (first | (with_reducible refine q_bind ?_) | (with_reducible refine q_onRaise ?_) | (with_reducible refine q_keep ?_) | (with_reducible refine q_tryCatch ?_))); (with_reducible refine' q_dq ?_ ?ne; (case ne => (with_unfolding_all conv => (lhs; whnf)))))
    (with_reducible refine' z_unb 0 ?e1 ?_; (case e1 => kernel_rfl))
    (with_reducible refine' z_unb 0 ?e1 ?_; (case e1 => kernel_rfl))
    (with_reducible refine' q_dq ?_ ?ne; (case ne => (with_unfolding_all conv => (lhs; whnf))))
    (with_reducible refine' q_dq ?_ ?ne; (case ne => (rw [ca_none ?ch]; rotate_left; (case ch => kernel_rfl!))); (repeat (first | (with_reducible refine q_bind ?_) | (with_reducible refine q_onRaise ?_) | (with_reducible refine q_keep ?_) | (with_reducible refine q_tryCatch ?_))); (with_reducible refine' q_dq ?_ ?ne; (case ne => (with_unfolding_all conv => (lhs; whnf)))))
    (with_reducible refine' z_alloc had 4 42 ?e1 ?eo ?el ?hf ?_; (case eo => (with_unfolding_all conv => (lhs; whnf; (try dsimp only)))); (case e1 => kernel_rfl); (case el => with_unfolding_all exact rfl); (case hf => with_unfolding_all exact rfl))
    (with_reducible refine' z_alloc had 0 43 ?e1 ?eo ?el ?hf ?_; (case eo => (with_unfolding_all conv => (lhs; whnf; (try dsimp only)))); (case e1 => kernel_rfl); (case el => with_unfolding_all exact rfl); (case hf => with_unfolding_all exact rfl))
    (with_reducible refine' z_alloc had 2 44 ?e1 ?eo ?el ?hf ?_; (case eo => (with_unfolding_all conv => (lhs; whnf; (try dsimp only)))); (case e1 => kernel_rfl); (case el => with_unfolding_all exact rfl); (case hf => with_unfolding_all exact rfl))
    (with_reducible refine' z_alloc had 0 45 ?e1 ?eo ?el ?hf ?_; (case eo => (with_unfolding_all conv => (lhs; whnf; (try dsimp only)))); (case e1 => kernel_rfl); (case el => with_unfolding_all exact rfl); (case hf => with_unfolding_all exact rfl))
    (with_reducible refine' z_alloc had 0 46 ?e1 ?eo ?el ?hf ?_; (case eo => (with_unfolding_all conv => (lhs; whnf; (try dsimp only)))); (case e1 => kernel_rfl); (case el => with_unfolding_all exact rfl); (case hf => with_unfolding_all exact rfl))
    (with_reducible refine' z_alloc had 2 47 ?e1 ?eo ?el ?hf ?_; (case eo => (with_unfolding_all conv => (lhs; whnf; (try dsimp only)))); (case e1 => kernel_rfl); (case el => with_unfolding_all exact rfl); (case hf => with_unfolding_all exact rfl))
    (with_reducible refine' z_loadI 0 41 ?e1 ?e ?_; (case e => with_unfolding_all exact rfl); (case e1 => kernel_rfl))
    (with_reducible refine' z_upd 0 41 ?e1 ?ei ?ef ?ue ?uf ?hn ?_; (case ei => with_unfolding_all exact rfl); (case ef => (with_unfolding_all conv => (lhs; whnf))); (case ue => (with_unfolding_all refine' regrow_hn2 ?rh; (case rh => kernel_rfl!))); (case e1 => kernel_rfl); (case uf => with_unfolding_all exact rfl); (case hn => (conv => (lhs; simp only [List.set]))))
    (with_reducible refine' z_loadI 0 41 ?e1 ?e ?_; (case e => with_unfolding_all exact rfl); (case e1 => kernel_rfl))
    (with_reducible refine' q_dq ?_ ?ne; (case ne => (with_unfolding_all conv => (lhs; whnf))))
    (with_reducible refine' q_dq ?_ ?ne; (case ne => (rw [ca_some ?ch]; rotate_left; (case ch => kernel_rfl!))); (repeat (first | (with_reducible refine q_bind ?_) | (with_reducible refine q_onRaise ?_) | (with_reducible refine q_keep ?_) | (with_reducible refine q_tryCatch ?_))); (with_reducible refine' q_dq ?_ ?ne; (case ne => (with_unfolding_all conv => (lhs; whnf)))))
    (with_reducible refine' z_unb 0 ?e1 ?_; (case e1 => kernel_rfl))
    (with_reducible refine' z_loadK 0 3 ?e1 KX ?e ?hc ?_; (case e => with_unfolding_all exact rfl); (case e1 => kernel_rfl); (case hc => with_unfolding_all exact rfl))
    (with_reducible refine' z_loadH 0 ?e1 M4 (by first | exact rfl | exact or_r rfl) ?_; (case e1 => (show _ = (some 4, _)); kernel_rfl))
    (with_reducible refine' z_loadK 0 3 ?e1 KX ?e ?hc ?_; (case e => with_unfolding_all exact rfl); (case e1 => kernel_rfl); (case hc => with_unfolding_all exact rfl))
    (with_reducible refine' z_alloc had 0 48 ?e1 ?eo ?el ?hf ?_; (case eo => (with_unfolding_all conv => (lhs; whnf; (try dsimp only)))); (case e1 => kernel_rfl); (case el => with_unfolding_all exact rfl); (case hf => with_unfolding_all exact rfl))
    (with_reducible refine' z_unb 0 ?e1 ?_; (case e1 => kernel_rfl))
    (with_reducible refine' z_loadI 0 44 ?e1 ?e ?_; (case e => with_unfolding_all exact rfl); (case e1 => kernel_rfl))
    (with_reducible refine' z_loadI 1 44 ?e1 ?e ?_; (case e => with_unfolding_all exact rfl); (case e1 => kernel_rfl))
    (with_reducible refine' z_upd 0 44 ?e1 ?ei ?ef ?ue ?uf ?hn ?_; (case ei => with_unfolding_all exact rfl); (case ef => (with_unfolding_all conv => (lhs; whnf))); (case ue => (with_reducible refine' obj_dict ?de ?dh ?dl; (case de => with_unfolding_all exact rfl); (case dh => with_unfolding_all exact rfl); (case dl => (repeat (first | (apply NL.nil; with_unfolding_all exact rfl) | (apply NL.cons; with_unfolding_all exact rfl; ((with_unfolding_all conv => (lhs; whnf; (try dsimp only))); try rfl))))))); (case e1 => kernel_rfl); (case uf => with_unfolding_all exact rfl); (case hn => (conv => (lhs; simp only [List.set]))))
    (with_reducible refine' z_unb 0 ?e1 ?_; (case e1 => kernel_rfl))
    (with_reducible refine' z_alloc had 0 49 ?e1 ?eo ?el ?hf ?_; (case eo => (with_unfolding_all conv => (lhs; whnf; (try dsimp only)))); (case e1 => kernel_rfl); (case el => with_unfolding_all exact rfl); (case hf => with_unfolding_all exact rfl))
    (with_reducible refine' z_loadI 0 42 ?e1 ?e ?_; (case e => with_unfolding_all exact rfl); (case e1 => kernel_rfl))
    (with_reducible refine' z_loadI 0 43 ?e1 ?e ?_; (case e => with_unfolding_all exact rfl); (case e1 => kernel_rfl))
    (with_reducible refine' q_dq ?_ ?ne; (case ne => (with_unfolding_all conv => (lhs; whnf))))
    (with_reducible refine q_bind ?_; (repeat (first | (with_reducible refine q_bind ?_) | (with_reducible refine q_onRaise ?_) | (with_reducible refine q_keep ?_) | (with_reducible refine q_tryCatch ?_))); (with_reducible refine' q_dq ?_ ?ne; (case ne => (with_unfolding_all conv => (lhs; whnf)))))
    (with_reducible refine' z_unb 0 ?e1 ?_; (case e1 => kernel_rfl))
    (with_reducible refine' z_unb 0 ?e1 ?_; (case e1 => kernel_rfl))
    (with_reducible refine' q_dq ?_ ?ne; (case ne => (with_unfolding_all conv => (lhs; whnf))))
    (with_reducible refine' q_dq ?_ ?ne; (case ne => (rw [ca_none ?ch]; rotate_left; (case ch => kernel_rfl!))); (repeat (first | (with_reducible refine q_bind ?_) | (with_reducible refine q_onRaise ?_) | (with_reducible refine q_keep ?_) | (with_reducible refine q_tryCatch ?_))); (with_reducible refine' q_dq ?_ ?ne; (case ne => (with_unfolding_all conv => (lhs; whnf)))))
    (with_reducible refine' z_alloc had 4 50 ?e1 ?eo ?el ?hf ?_; (case eo => (with_unfolding_all conv => (lhs; whnf; (try dsimp only)))); (case e1 => kernel_rfl); (case el => with_unfolding_all exact rfl); (case hf => with_unfolding_all exact rfl))
    (with_reducible refine' z_alloc had 0 51 ?e1 ?eo ?el ?hf ?_; (case eo => (with_unfolding_all conv => (lhs; whnf; (try dsimp only)))); (case e1 => kernel_rfl); (case el => with_unfolding_all exact rfl); (case hf => with_unfolding_all exact rfl))
    (with_reducible refine' z_alloc had 2 52 ?e1 ?eo ?el ?hf ?_; (case eo => (with_unfolding_all conv => (lhs; whnf; (try dsimp only)))); (case e1 => kernel_rfl); (case el => with_unfolding_all exact rfl); (case hf => with_unfolding_all exact rfl))
    (with_reducible refine' z_alloc had 0 53 ?e1 ?eo ?el ?hf ?_; (case eo => (with_unfolding_all conv => (lhs; whnf; (try dsimp only)))); (case e1 => kernel_rfl); (case el => with_unfolding_all exact rfl); (case hf => with_unfolding_all exact rfl))
    (with_reducible refine' z_alloc had 0 54 ?e1 ?eo ?el ?hf ?_; (case eo => (with_unfolding_all conv => (lhs; whnf; (try dsimp only)))); (case e1 => kernel_rfl); (case el => with_unfolding_all exact rfl); (case hf => with_unfolding_all exact rfl))
    (with_reducible refine' z_alloc had 2 55 ?e1 ?eo ?el ?hf ?_; (case eo => (with_unfolding_all conv => (lhs; whnf; (try dsimp only)))); (case e1 => kernel_rfl); (case el => with_unfolding_all exact rfl); (case hf => with_unfolding_all exact rfl))
    (with_reducible refine' z_loadI 0 49 ?e1 ?e ?_; (case e => with_unfolding_all exact rfl); (case e1 => kernel_rfl))
    (with_reducible refine' z_upd 0 49 ?e1 ?ei ?ef ?ue ?uf ?hn ?_; (case ei => with_unfolding_all exact rfl); (case ef => (with_unfolding_all conv => (lhs; whnf))); (case ue => (with_unfolding_all refine' regrow_hn2 ?rh; (case rh => kernel_rfl!))); (case e1 => kernel_rfl); (case uf => with_unfolding_all exact rfl); (case hn => (conv => (lhs; simp only [List.set]))))
    (with_reducible refine' z_loadI 0 49 ?e1 ?e ?_; (case e => with_unfolding_all exact rfl); (case e1 => kernel_rfl))
    (with_reducible refine' q_dq ?_ ?ne; (case ne => (with_unfolding_all conv => (lhs; whnf))))
    (with_reducible refine' q_dq ?_ ?ne; (case ne => (rw [ca_some ?ch]; rotate_left; (case ch => kernel_rfl!))); (repeat (first | (with_reducible refine q_bind ?_) | (with_reducible refine q_onRaise ?_) | (with_reducible refine q_keep ?_) | (with_reducible refine q_tryCatch ?_))); (with_reducible refine' q_dq ?_ ?ne; (case ne => (with_unfolding_all conv => (lhs; whnf)))))
    (with_reducible refine' z_unb 0 ?e1 ?_; (case e1 => kernel_rfl))
    (with_reducible refine' z_loadK 0 3 ?e1 KX ?e ?hc ?_; (case e => with_unfolding_all exact rfl); (case e1 => kernel_rfl); (case hc => with_unfolding_all exact rfl))
    (with_reducible refine' z_loadH 0 ?e1 M4 (by first | exact rfl | exact or_r rfl) ?_; (case e1 => (show _ = (some 4, _)); kernel_rfl))
    (with_reducible refine' z_loadK 0 3 ?e1 KX ?e ?hc ?_; (case e => with_unfolding_all exact rfl); (case e1 => kernel_rfl); (case hc => with_unfolding_all exact rfl))
    (with_reducible refine' z_alloc had 0 56 ?e1 ?eo ?el ?hf ?_; (case eo => (with_unfolding_all conv => (lhs; whnf; (try dsimp only)))); (case e1 => kernel_rfl); (case el => with_unfolding_all exact rfl); (case hf => with_unfolding_all exact rfl))
    (with_reducible refine' z_unb 0 ?e1 ?_; (case e1 => kernel_rfl))
    (with_reducible refine' z_loadI 0 52 ?e1 ?e ?_; (case e => with_unfolding_all exact rfl); (case e1 => kernel_rfl))
    (with_reducible refine' z_loadI 1 52 ?e1 ?e ?_; (case e => with_unfolding_all exact rfl); (case e1 => kernel_rfl))
    (with_reducible refine' z_upd 0 52 ?e1 ?ei ?ef ?ue ?uf ?hn ?_; (case ei => with_unfolding_all exact rfl); (case ef => (with_unfolding_all conv => (lhs; whnf))); (case ue => (with_reducible refine' obj_dict ?de ?dh ?dl; (case de => with_unfolding_all exact rfl); (case dh => with_unfolding_all exact rfl); (case dl => (repeat (first | (apply NL.nil; with_unfolding_all exact rfl) | (apply NL.cons; with_unfolding_all exact rfl; ((with_unfolding_all conv => (lhs; whnf; (try dsimp only))); try rfl))))))); (case e1 => kernel_rfl); (case uf => with_unfolding_all exact rfl); (case hn => (conv => (lhs; simp only [List.set]))))
    (with_reducible refine' z_unb 0 ?e1 ?_; (case e1 => kernel_rfl))
    (with_reducible refine' z_loadI 0 52 ?e1 ?e ?_; (case e => with_unfolding_all exact rfl); (case e1 => kernel_rfl))
    (with_reducible refine' z_loadI 1 52 ?e1 ?e ?_; (case e => with_unfolding_all exact rfl); (case e1 => kernel_rfl))
    (with_reducible refine' z_upd 0 52 ?e1 ?ei ?ef ?ue ?uf ?hn ?_; (case ei => with_unfolding_all exact rfl); (case ef => (with_unfolding_all conv => (lhs; whnf))); (case ue => (with_reducible refine' obj_dict ?de ?dh ?dl; (case de => with_unfolding_all exact rfl); (case dh => with_unfolding_all exact rfl); (case dl => (repeat (first | (apply NL.nil; with_unfolding_all exact rfl) | (apply NL.cons; with_unfolding_all exact rfl; ((with_unfolding_all conv => (lhs; whnf; (try dsimp only))); try rfl))))))); (case e1 => kernel_rfl); (case uf => with_unfolding_all exact rfl); (case hn => (conv => (lhs; simp only [List.set]))))
    (with_reducible refine' z_unb 0 ?e1 ?_; (case e1 => kernel_rfl))
    (with_reducible refine' z_ret 0 ?e1 ?_; (case e1 => kernel_rfl))
    (with_reducible refine' q_dq ?_ ?ne; (case ne => (with_unfolding_all conv => (lhs; whnf))))
    (with_reducible refine' z_alloc had 1 57 ?e1 ?eo ?el ?hf ?_; (case eo => (with_unfolding_all conv => (lhs; whnf; (try dsimp only)))); (case e1 => kernel_rfl); (case el => with_unfolding_all exact rfl); (case hf => with_unfolding_all exact rfl))
    (with_reducible refine' z_loadI 0 53 ?e1 ?e ?_; (case e => with_unfolding_all exact rfl); (case e1 => kernel_rfl))
    (with_reducible refine' z_loadI 1 53 ?e1 ?e ?_; (case e => with_unfolding_all exact rfl); (case e1 => kernel_rfl))
    (with_reducible refine' z_upd 0 53 ?e1 ?ei ?ef ?ue ?uf ?hn ?_; (case ei => with_unfolding_all exact rfl); (case ef => (with_unfolding_all conv => (lhs; whnf))); (case ue => (with_reducible refine' obj_dict ?de ?dh ?dl; (case de => with_unfolding_all exact rfl); (case dh => with_unfolding_all exact rfl); (case dl => (repeat (first | (apply NL.nil; with_unfolding_all exact rfl) | (apply NL.cons; with_unfolding_all exact rfl; ((with_unfolding_all conv => (lhs; whnf; (try dsimp only))); try rfl))))))); (case e1 => kernel_rfl); (case uf => with_unfolding_all exact rfl); (case hn => (conv => (lhs; simp only [List.set]))))
    (with_reducible refine' z_callC 0 ?e1 ?ec ?_; (case ec => (with_unfolding_all conv => (lhs; whnf; (try dsimp only)))); (case e1 => kernel_rfl))
    (with_reducible refine' z_againC 0 ?e1 ?ec ?_; (case ec => (with_unfolding_all conv => (lhs; whnf; (try dsimp only)))); (case e1 => kernel_rfl))
    (with_reducible refine' z_callC 0 ?e1 ?ec ?_; (case ec => (with_unfolding_all conv => (lhs; whnf; (try dsimp only)))); (case e1 => kernel_rfl))
    (with_reducible refine' z_againC 0 ?e1 ?ec ?_; (case ec => (with_unfolding_all conv => (lhs; whnf; (try dsimp only)))); (case e1 => kernel_rfl))
    (with_reducible refine' z_loadI 0 55 ?e1 ?e ?_; (case e => with_unfolding_all exact rfl); (case e1 => kernel_rfl))
    (with_reducible refine' z_loadI 0 53 ?e1 ?e ?_; (case e => with_unfolding_all exact rfl); (case e1 => kernel_rfl))
    (with_reducible refine' z_loadI 0 55 ?e1 ?e ?_; (case e => with_unfolding_all exact rfl); (case e1 => kernel_rfl))
    (with_reducible refine' q_dq ?_ ?ne; (case ne => (with_unfolding_all conv => (lhs; whnf))))
    (with_reducible refine' q_dq ?_ ?ne; (case ne => (rw [beq_no ?nq]; rotate_left; (case nq => (first | exact off_ne had rfl | exact off_low had hlow rfl | exact off_low' had hlow rfl | exact off_old had (by assumption) | exact off_old' had (by assumption))))); (repeat (first | (with_reducible refine q_bind ?_) | (with_reducible refine q_onRaise ?_) | (with_reducible refine q_keep ?_) | (with_reducible refine q_tryCatch ?_))); (with_reducible refine' q_dq ?_ ?ne; (case ne => (with_unfolding_all conv => (lhs; whnf)))))
    (with_reducible refine' z_loadI 0 53 ?e1 ?e ?_; (case e => with_unfolding_all exact rfl); (case e1 => kernel_rfl))
    (with_reducible refine' z_loadI 0 53 ?e1 ?e ?_; (case e => with_unfolding_all exact rfl); (case e1 => kernel_rfl))
    (with_reducible refine' z_loadI 0 48 ?e1 ?e ?_; (case e => with_unfolding_all exact rfl); (case e1 => kernel_rfl))
    (with_reducible refine' z_callC 0 ?e1 ?ec ?_; (case ec => (with_unfolding_all conv => (lhs; whnf; (try dsimp only)))); (case e1 => kernel_rfl))
    (with_reducible refine' z_alloc had 0 58 ?e1 ?eo ?el ?hf ?_; (case eo => (with_unfolding_all conv => (lhs; whnf; (try dsimp only)))); (case e1 => kernel_rfl); (case el => with_unfolding_all exact rfl); (case hf => with_unfolding_all exact rfl))
    (with_reducible refine' z_againC 0 ?e1 ?ec ?_; (case ec => (with_unfolding_all conv => (lhs; whnf; (try dsimp only)))); (case e1 => kernel_rfl))
    (with_reducible refine' z_loadI 0 49 ?e1 ?e ?_; (case e => with_unfolding_all exact rfl); (case e1 => kernel_rfl))
    (with_reducible refine' q_dq ?_ ?ne; (case ne => (with_unfolding_all conv => (lhs; whnf))))
    (with_reducible refine q_boolT ?bh ?_; (case bh => (first | kernel_rfl! | (with_unfolding_all exact contains_self) | (with_unfolding_all exact beqV_self) | (with_unfolding_all refine beqI_yes ?bi; (case bi => omega)) | (with_unfolding_all refine ltI_yes ?bi; (case bi => omega)) | (apply or_r; kernel_rfl!) | (apply or_l; (first | kernel_rfl! | (apply or_r; kernel_rfl!) | (apply or_l; kernel_rfl!))))); (repeat (first | (with_reducible refine q_bind ?_) | (with_reducible refine q_onRaise ?_) | (with_reducible refine q_keep ?_) | (with_reducible refine q_tryCatch ?_))); (with_reducible refine' q_dq ?_ ?ne; (case ne => (with_unfolding_all conv => (lhs; whnf)))))
    (with_reducible refine' z_loadI 0 49 ?e1 ?e ?_; (case e => with_unfolding_all exact rfl); (case e1 => kernel_rfl))
    (with_reducible refine' z_loadI 0 0 ?e1 ?e ?_; (case e => with_unfolding_all exact rfl); (case e1 => kernel_rfl))
    (with_reducible refine' z_loadI 0 0 ?e1 ?e ?_; (case e => with_unfolding_all exact rfl); (case e1 => kernel_rfl))
    (with_reducible refine' z_upd 0 0 ?e1 ?ei ?ef ?ue ?uf ?hn ?_; (case ei => with_unfolding_all exact rfl); (case ef => (with_unfolding_all conv => (lhs; whnf))); (case ue => ((with_unfolding_all conv => (lhs; whnf; (try dsimp only))); try rfl)); (case e1 => kernel_rfl); (case uf => with_unfolding_all exact rfl); (case hn => (conv => (lhs; simp only [List.set]))))
    (with_reducible refine' z_loadI 0 0 ?e1 ?e ?_; (case e => with_unfolding_all exact rfl); (case e1 => kernel_rfl))
    (with_reducible refine' z_ret 0 ?e1 ?_; (case e1 => kernel_rfl))
    (with_reducible refine' q_dq ?_ ?ne; (case ne => (with_unfolding_all conv => (lhs; whnf))))
    (with_reducible refine' z_loadI 0 0 ?e1 ?e ?_; (case e => with_unfolding_all exact rfl); (case e1 => kernel_rfl))
    (with_reducible refine' z_alloc had 0 59 ?e1 ?eo ?el ?hf ?_; (case eo => (with_unfolding_all conv => (lhs; whnf; (try dsimp only)))); (case e1 => kernel_rfl); (case el => with_unfolding_all exact rfl); (case hf => with_unfolding_all exact rfl))
    (with_reducible refine' z_loadI 0 0 ?e1 ?e ?_; (case e => with_unfolding_all exact rfl); (case e1 => kernel_rfl))
    (with_reducible refine' z_loadI 0 0 ?e1 ?e ?_; (case e => with_unfolding_all exact rfl); (case e1 => kernel_rfl))
    (with_reducible refine' z_loadI 0 0 ?e1 ?e ?_; (case e => with_unfolding_all exact rfl); (case e1 => kernel_rfl))
    (with_reducible refine' z_alloc had 0 60 ?e1 ?eo ?el ?hf ?_; (case eo => (with_unfolding_all conv => (lhs; whnf; (try dsimp only)))); (case e1 => kernel_rfl); (case el => with_unfolding_all exact rfl); (case hf => with_unfolding_all exact rfl))
    (with_reducible refine' z_upd 0 0 ?e1 ?ei ?ef ?ue ?uf ?hn ?_; (case ei => with_unfolding_all exact rfl); (case ef => (with_unfolding_all conv => (lhs; whnf))); (case ue => (refine' slot_upd ?sl; (case sl => (repeat (first | (apply NL.nil; with_unfolding_all exact rfl) | (apply NL.cons; with_unfolding_all exact rfl; ((with_unfolding_all conv => (lhs; whnf; (try dsimp only))); try rfl))))))); (case e1 => kernel_rfl); (case uf => with_unfolding_all exact rfl); (case hn => (conv => (lhs; simp only [List.set]))))
    (with_reducible refine' z_upd 0 0 ?e1 ?ei ?ef ?ue ?uf ?hn ?_; (case ei => with_unfolding_all exact rfl); (case ef => (with_unfolding_all conv => (lhs; whnf))); (case ue => (refine' slot_upd ?sl; (case sl => (repeat (first | (apply NL.nil; with_unfolding_all exact rfl) | (apply NL.cons; with_unfolding_all exact rfl; ((with_unfolding_all conv => (lhs; whnf; (try dsimp only))); try rfl))))))); (case e1 => kernel_rfl); (case uf => with_unfolding_all exact rfl); (case hn => (conv => (lhs; simp only [List.set]))))
    (with_reducible refine' z_upd 0 0 ?e1 ?ei ?ef ?ue ?uf ?hn ?_; (case ei => with_unfolding_all exact rfl); (case ef => (with_unfolding_all conv => (lhs; whnf))); (case ue => (refine' slot_upd ?sl; (case sl => (repeat (first | (apply NL.nil; with_unfolding_all exact rfl) | (apply NL.cons; with_unfolding_all exact rfl; ((with_unfolding_all conv => (lhs; whnf; (try dsimp only))); try rfl))))))); (case e1 => kernel_rfl); (case uf => with_unfolding_all exact rfl); (case hn => (conv => (lhs; simp only [List.set]))))
    (with_reducible refine' z_loadI 0 1 ?e1 ?e ?_; (case e => with_unfolding_all exact rfl); (case e1 => kernel_rfl))
    (with_reducible refine' z_upd 0 1 ?e1 ?ei ?ef ?ue ?uf ?hn ?_; (case ei => with_unfolding_all exact rfl); (case ef => (with_unfolding_all conv => (lhs; whnf))); (case ue => (with_reducible refine' obj_dict ?de ?dh ?dl; (case de => with_unfolding_all exact rfl); (case dh => with_unfolding_all exact rfl); (case dl => (repeat (first | (apply NL.nil; with_unfolding_all exact rfl) | (apply NL.cons; with_unfolding_all exact rfl; ((with_unfolding_all conv => (lhs; whnf; (try dsimp only))); try rfl))))))); (case e1 => kernel_rfl); (case uf => with_unfolding_all exact rfl); (case hn => (conv => (lhs; simp only [List.set]))))
    (with_reducible refine' z_loadI 0 1 ?e1 ?e ?_; (case e => with_unfolding_all exact rfl); (case e1 => kernel_rfl))
    (with_reducible refine' z_loadI 0 1 ?e1 ?e ?_; (case e => with_unfolding_all exact rfl); (case e1 => kernel_rfl))
    (with_reducible refine' z_loadI 0 1 ?e1 ?e ?_; (case e => with_unfolding_all exact rfl); (case e1 => kernel_rfl))
    (with_reducible refine' z_loadI 0 1 ?e1 ?e ?_; (case e => with_unfolding_all exact rfl); (case e1 => kernel_rfl))
    (with_reducible refine' z_loadI 0 1 ?e1 ?e ?_; (case e => with_unfolding_all exact rfl); (case e1 => kernel_rfl))
    (with_reducible refine' q_dq ?_ ?ne; (case ne => (with_unfolding_all conv => (lhs; whnf))))
    (with_reducible refine q_bind ?_; (repeat (first | (with_reducible refine q_bind ?_) | (with_reducible refine q_onRaise ?_) | (with_reducible refine q_keep ?_) | (with_reducible refine q_tryCatch ?_))); (with_reducible refine' q_dq ?_ ?ne; (case ne => (with_unfolding_all conv => (lhs; whnf)))))
    (with_reducible refine' q_dq ?_ ?ne; (case ne => (rw [filt_self])); (repeat (first | (with_reducible refine q_bind ?_) | (with_reducible refine q_onRaise ?_) | (with_reducible refine q_keep ?_) | (with_reducible refine q_tryCatch ?_))); (with_reducible refine' q_dq ?_ ?ne; (case ne => (with_unfolding_all conv => (lhs; whnf)))))
    (with_reducible refine' z_unb 0 ?e1 ?_; (case e1 => kernel_rfl))
    (with_reducible refine' z_loadI 0 0 ?e1 ?e ?_; (case e => with_unfolding_all exact rfl); (case e1 => kernel_rfl))
    (with_reducible refine' z_upd 0 0 ?e1 ?ei ?ef ?ue ?uf ?hn ?_; (case ei => with_unfolding_all exact rfl); (case ef => (with_unfolding_all conv => (lhs; whnf))); (case ue => ((with_unfolding_all conv => (lhs; whnf; (try dsimp only))); try rfl)); (case e1 => kernel_rfl); (case uf => with_unfolding_all exact rfl); (case hn => (conv => (lhs; simp only [List.set]))))
    (with_reducible refine' z_loadI 0 0 ?e1 ?e ?_; (case e => with_unfolding_all exact rfl); (case e1 => kernel_rfl))
    (with_reducible refine' z_upd 0 0 ?e1 ?ei ?ef ?ue ?uf ?hn ?_; (case ei => with_unfolding_all exact rfl); (case ef => (with_unfolding_all conv => (lhs; whnf))); (case ue => (refine' slot_upd ?sl; (case sl => (repeat (first | (apply NL.nil; with_unfolding_all exact rfl) | (apply NL.cons; with_unfolding_all exact rfl; ((with_unfolding_all conv => (lhs; whnf; (try dsimp only))); try rfl))))))); (case e1 => kernel_rfl); (case uf => with_unfolding_all exact rfl); (case hn => (conv => (lhs; simp only [List.set]))))
    (with_reducible refine' z_loadI 0 0 ?e1 ?e ?_; (case e => with_unfolding_all exact rfl); (case e1 => kernel_rfl))
    (with_reducible refine' z_loadI 0 0 ?e1 ?e ?_; (case e => with_unfolding_all exact rfl); (case e1 => kernel_rfl))
    (with_reducible refine' z_loadI 0 0 ?e1 ?e ?_; (case e => with_unfolding_all exact rfl); (case e1 => kernel_rfl))
    (with_reducible refine' z_loadI 0 1 ?e1 ?e ?_; (case e => with_unfolding_all exact rfl); (case e1 => kernel_rfl))
    (with_reducible refine' z_loadI 0 1 ?e1 ?e ?_; (case e => with_unfolding_all exact rfl); (case e1 => kernel_rfl))
    (with_reducible refine' z_alloc had 1 61 ?e1 ?eo ?el ?hf ?_; (case eo => (with_unfolding_all conv => (lhs; whnf; (try dsimp only)))); (case e1 => kernel_rfl); (case el => with_unfolding_all exact rfl); (case hf => with_unfolding_all exact rfl))
    (with_reducible refine' z_loadI 0 2 ?e1 ?e ?_; (case e => with_unfolding_all exact rfl); (case e1 => kernel_rfl))
    (with_reducible refine' z_loadI 1 2 ?e1 ?e ?_; (case e => with_unfolding_all exact rfl); (case e1 => kernel_rfl))
    (with_reducible refine' z_upd 0 2 ?e1 ?ei ?ef ?ue ?uf ?hn ?_; (case ei => with_unfolding_all exact rfl); (case ef => (with_unfolding_all conv => (lhs; whnf))); (case ue => (with_reducible refine' obj_dict ?de ?dh ?dl; (case de => with_unfolding_all exact rfl); (case dh => with_unfolding_all exact rfl); (case dl => (repeat (first | (apply NL.nil; with_unfolding_all exact rfl) | (apply NL.cons; with_unfolding_all exact rfl; ((with_unfolding_all conv => (lhs; whnf; (try dsimp only))); try rfl))))))); (case e1 => kernel_rfl); (case uf => with_unfolding_all exact rfl); (case hn => (conv => (lhs; simp only [List.set]))))
    (with_reducible refine' z_loadI 0 1 ?e1 ?e ?_; (case e => with_unfolding_all exact rfl); (case e1 => kernel_rfl))
    (with_reducible refine' z_upd 0 1 ?e1 ?ei ?ef ?ue ?uf ?hn ?_; (case ei => with_unfolding_all exact rfl); (case ef => (with_unfolding_all conv => (lhs; whnf))); (case ue => ((with_unfolding_all conv => (lhs; whnf; (try dsimp only))); try rfl)); (case e1 => kernel_rfl); (case uf => with_unfolding_all exact rfl); (case hn => (conv => (lhs; simp only [List.set]))))
    (with_reducible refine' z_loadI 0 1 ?e1 ?e ?_; (case e => with_unfolding_all exact rfl); (case e1 => kernel_rfl))
    (with_reducible refine' z_upd 0 1 ?e1 ?ei ?ef ?ue ?uf ?hn ?_; (case ei => with_unfolding_all exact rfl); (case ef => (with_unfolding_all conv => (lhs; whnf))); (case ue => (refine' slot_upd ?sl; (case sl => (repeat (first | (apply NL.nil; with_unfolding_all exact rfl) | (apply NL.cons; with_unfolding_all exact rfl; ((with_unfolding_all conv => (lhs; whnf; (try dsimp only))); try rfl))))))); (case e1 => kernel_rfl); (case uf => with_unfolding_all exact rfl); (case hn => (conv => (lhs; simp only [List.set]))))
    (with_reducible refine' z_loadI 0 2 ?e1 ?e ?_; (case e => with_unfolding_all exact rfl); (case e1 => kernel_rfl))
    (with_reducible refine' z_loadI 1 2 ?e1 ?e ?_; (case e => with_unfolding_all exact rfl); (case e1 => kernel_rfl))
    (with_reducible refine' z_upd 0 2 ?e1 ?ei ?ef ?ue ?uf ?hn ?_; (case ei => with_unfolding_all exact rfl); (case ef => (with_unfolding_all conv => (lhs; whnf))); (case ue => (with_reducible refine' obj_dict ?de ?dh ?dl; (case de => with_unfolding_all exact rfl); (case dh => with_unfolding_all exact rfl); (case dl => (repeat (first | (apply NL.nil; with_unfolding_all exact rfl) | (apply NL.cons; with_unfolding_all exact rfl; ((with_unfolding_all conv => (lhs; whnf; (try dsimp only))); try rfl))))))); (case e1 => kernel_rfl); (case uf => with_unfolding_all exact rfl); (case hn => (conv => (lhs; simp only [List.set]))))
    (with_reducible refine' z_loadI 0 2 ?e1 ?e ?_; (case e => with_unfolding_all exact rfl); (case e1 => kernel_rfl))
    (with_reducible refine' z_loadI 0 2 ?e1 ?e ?_; (case e => with_unfolding_all exact rfl); (case e1 => kernel_rfl))
    (with_reducible refine' z_loadI 0 2 ?e1 ?e ?_; (case e => with_unfolding_all exact rfl); (case e1 => kernel_rfl))
    (with_reducible refine' z_loadI 0 2 ?e1 ?e ?_; (case e => with_unfolding_all exact rfl); (case e1 => kernel_rfl))
    (with_reducible refine' z_loadI 0 52 ?e1 ?e ?_; (case e => with_unfolding_all exact rfl); (case e1 => kernel_rfl))
    (with_reducible refine' z_loadI 0 45 ?e1 ?e ?_; (case e => with_unfolding_all exact rfl); (case e1 => kernel_rfl))
    (with_reducible refine' z_loadI 0 37 ?e1 ?e ?_; (case e => with_unfolding_all exact rfl); (case e1 => kernel_rfl))
    (with_reducible refine' z_loadI 0 29 ?e1 ?e ?_; (case e => with_unfolding_all exact rfl); (case e1 => kernel_rfl))
    (with_reducible refine' z_loadI 0 21 ?e1 ?e ?_; (case e => with_unfolding_all exact rfl); (case e1 => kernel_rfl))
    (with_reducible refine' z_loadI 0 13 ?e1 ?e ?_; (case e => with_unfolding_all exact rfl); (case e1 => kernel_rfl))
    (with_reducible refine' z_loadI 0 5 ?e1 ?e ?_; (case e => with_unfolding_all exact rfl); (case e1 => kernel_rfl))
    (with_reducible refine' z_loadI 0 4 ?e1 ?e ?_; (case e => with_unfolding_all exact rfl); (case e1 => kernel_rfl))
    (with_reducible refine' z_loadI 0 0 ?e1 ?e ?_; (case e => with_unfolding_all exact rfl); (case e1 => kernel_rfl))
    (with_reducible refine' q_dq ?_ ?ne; (case ne => (with_unfolding_all conv => (lhs; whnf))))
    (with_reducible refine' z_callC 0 ?e1 ?ec ?_; (case ec => (with_unfolding_all conv => (lhs; whnf; (try dsimp only)))); (case e1 => kernel_rfl))
    (with_reducible refine' z_againC 0 ?e1 ?ec ?_; (case ec => (with_unfolding_all conv => (lhs; whnf; (try dsimp only)))); (case e1 => kernel_rfl))
    (with_reducible refine' z_loadI 0 1 ?e1 ?e ?_; (case e => with_unfolding_all exact rfl); (case e1 => kernel_rfl))
    (with_reducible refine' z_callC 0 ?e1 ?ec ?_; (case ec => (with_unfolding_all conv => (lhs; whnf; (try dsimp only)))); (case e1 => kernel_rfl))
    (with_reducible refine' z_againC 0 ?e1 ?ec ?_; (case ec => (with_unfolding_all conv => (lhs; whnf; (try dsimp only)))); (case e1 => kernel_rfl))
    (with_reducible refine' z_alloc had 0 62 ?e1 ?eo ?el ?hf ?_; (case eo => (with_unfolding_all conv => (lhs; whnf; (try dsimp only)))); (case e1 => kernel_rfl); (case el => with_unfolding_all exact rfl); (case hf => with_unfolding_all exact rfl))
    (with_reducible refine' z_ret 0 ?e1 ?_; (case e1 => kernel_rfl))
    (with_reducible refine' q_dq ?_ ?ne; (case ne => (with_unfolding_all conv => (lhs; whnf))))
    (with_reducible refine' z_loadI 0 0 ?e1 ?e ?_; (case e => with_unfolding_all exact rfl); (case e1 => kernel_rfl))
    (with_reducible refine' z_loadI 0 0 ?e1 ?e ?_; (case e => with_unfolding_all exact rfl); (case e1 => kernel_rfl))
    (with_reducible refine' z_callC 0 ?e1 ?ec ?_; (case ec => (with_unfolding_all conv => (lhs; whnf; (try dsimp only)))); (case e1 => kernel_rfl))
    (with_reducible refine' z_loadI 0 0 ?e1 ?e ?_; (case e => with_unfolding_all exact rfl); (case e1 => kernel_rfl))
    (with_reducible refine' z_againC 0 ?e1 ?ec ?_; (case ec => (with_unfolding_all conv => (lhs; whnf; (try dsimp only)))); (case e1 => kernel_rfl))
    (with_reducible refine' z_loadI 0 2 ?e1 ?e ?_; (case e => with_unfolding_all exact rfl); (case e1 => kernel_rfl))
    (with_reducible refine' z_loadI 0 2 ?e1 ?e ?_; (case e => with_unfolding_all exact rfl); (case e1 => kernel_rfl))
    (with_reducible refine' z_loadI 0 2 ?e1 ?e ?_; (case e => with_unfolding_all exact rfl); (case e1 => kernel_rfl))
    (with_reducible refine' q_dq ?_ ?ne; (case ne => (with_unfolding_all conv => (lhs; whnf))))
    (with_reducible refine q_bind ?_; (repeat (first | (with_reducible refine q_bind ?_) | (with_reducible refine q_onRaise ?_) | (with_reducible refine q_keep ?_) | (with_reducible refine q_tryCatch ?_))); (with_reducible refine' q_dq ?_ ?ne; (case ne => (with_unfolding_all conv => (lhs; whnf)))))
    (with_reducible refine' z_unb 0 ?e1 ?_; (case e1 => kernel_rfl))
    (with_reducible refine' z_unb 0 ?e1 ?_; (case e1 => kernel_rfl))
    (with_reducible refine' z_unb 0 ?e1 ?_; (case e1 => kernel_rfl))
    (with_reducible refine' z_unb 0 ?e1 ?_; (case e1 => kernel_rfl))
    (with_reducible refine' q_dq ?_ ?ne; (case ne => (with_unfolding_all conv => (lhs; whnf))))
    (with_reducible refine q_boolT ?bh ?_; (case bh => (first | kernel_rfl! | (with_unfolding_all exact contains_self) | (with_unfolding_all exact beqV_self) | (with_unfolding_all refine beqI_yes ?bi; (case bi => omega)) | (with_unfolding_all refine ltI_yes ?bi; (case bi => omega)) | (apply or_r; kernel_rfl!) | (apply or_l; (first | kernel_rfl! | (apply or_r; kernel_rfl!) | (apply or_l; kernel_rfl!))))); (repeat (first | (with_reducible refine q_bind ?_) | (with_reducible refine q_onRaise ?_) | (with_reducible refine q_keep ?_) | (with_reducible refine q_tryCatch ?_))); (with_reducible refine' q_dq ?_ ?ne; (case ne => (with_unfolding_all conv => (lhs; whnf)))))
    (with_reducible refine' z_unb 0 ?e1 ?_; (case e1 => kernel_rfl))
    (with_reducible refine' z_loadI 0 0 ?e1 ?e ?_; (case e => with_unfolding_all exact rfl); (case e1 => kernel_rfl))
    (with_reducible refine' z_upd 0 0 ?e1 ?ei ?ef ?ue ?uf ?hn ?_; (case ei => with_unfolding_all exact rfl); (case ef => (with_unfolding_all conv => (lhs; whnf))); (case ue => ((with_unfolding_all conv => (lhs; whnf; (try dsimp only))); try rfl)); (case e1 => kernel_rfl); (case uf => with_unfolding_all exact rfl); (case hn => (conv => (lhs; simp only [List.set]))))
    (with_reducible refine' z_loadI 0 0 ?e1 ?e ?_; (case e => with_unfolding_all exact rfl); (case e1 => kernel_rfl))
    (with_reducible refine' z_upd 0 0 ?e1 ?ei ?ef ?ue ?uf ?hn ?_; (case ei => with_unfolding_all exact rfl); (case ef => (with_unfolding_all conv => (lhs; whnf))); (case ue => ((with_unfolding_all conv => (lhs; whnf; (try dsimp only))); try rfl)); (case e1 => kernel_rfl); (case uf => with_unfolding_all exact rfl); (case hn => (conv => (lhs; simp only [List.set]))))
    (with_reducible refine' z_loadI 0 0 ?e1 ?e ?_; (case e => with_unfolding_all exact rfl); (case e1 => kernel_rfl))
    (with_reducible refine' z_upd 0 0 ?e1 ?ei ?ef ?ue ?uf ?hn ?_; (case ei => with_unfolding_all exact rfl); (case ef => (with_unfolding_all conv => (lhs; whnf))); (case ue => ((with_unfolding_all conv => (lhs; whnf; (try dsimp only))); try rfl)); (case e1 => kernel_rfl); (case uf => with_unfolding_all exact rfl); (case hn => (conv => (lhs; simp only [List.set]))))
    (with_reducible refine' z_ret 0 ?e1 ?_; (case e1 => kernel_rfl))
    (with_reducible refine' q_dq ?_ ?ne; (case ne => (with_unfolding_all conv => (lhs; whnf))))
    (with_reducible refine' z_ret 0 ?e1 ?_; (case e1 => kernel_rfl))
    (with_reducible refine' q_dq ?_ ?ne; (case ne => (with_unfolding_all conv => (lhs; whnf))))
    (with_reducible refine' z_loadI 1 0 ?e1 ?e ?_; (case e => with_unfolding_all exact rfl); (case e1 => kernel_rfl))
    (with_reducible refine' z_callC 0 ?e1 ?ec ?_; (case ec => (with_unfolding_all conv => (lhs; whnf; (try dsimp only)))); (case e1 => kernel_rfl))
    (with_reducible refine' z_loadI 0 0 ?e1 ?e ?_; (case e => with_unfolding_all exact rfl); (case e1 => kernel_rfl))
    (with_reducible refine' z_againC 0 ?e1 ?ec ?_; (case ec => (with_unfolding_all conv => (lhs; whnf; (try dsimp only)))); (case e1 => kernel_rfl))
    (with_reducible refine' z_loadI 0 0 ?e1 ?e ?_; (case e => with_unfolding_all exact rfl); (case e1 => kernel_rfl))
    (with_reducible refine' z_loadI 0 0 ?e1 ?e ?_; (case e => with_unfolding_all exact rfl); (case e1 => kernel_rfl))
    (with_reducible refine' z_loadI 0 0 ?e1 ?e ?_; (case e => with_unfolding_all exact rfl); (case e1 => kernel_rfl))
    (with_reducible refine' z_loadK 0 2 ?e1 KX ?e ?hc ?_; (case e => with_unfolding_all exact rfl); (case e1 => kernel_rfl); (case hc => with_unfolding_all exact rfl))
    (with_reducible refine' z_loadI 0 2 ?e1 ?e ?_; (case e => with_unfolding_all exact rfl); (case e1 => kernel_rfl))
    (with_reducible refine' q_dq ?_ ?ne; (case ne => (with_unfolding_all conv => (lhs; whnf))))
    (with_reducible refine q_bind ?_; (repeat (first | (with_reducible refine q_bind ?_) | (with_reducible refine q_onRaise ?_) | (with_reducible refine q_keep ?_) | (with_reducible refine q_tryCatch ?_))); (with_reducible refine' q_dq ?_ ?ne; (case ne => (with_unfolding_all conv => (lhs; whnf)))))
    (with_reducible refine q_loop [Value.type "object"] ?le ?_; (case le => with_unfolding_all exact drop_self _); (repeat (first | (with_reducible refine q_bind ?_) | (with_reducible refine q_onRaise ?_) | (with_reducible refine q_keep ?_) | (with_reducible refine q_tryCatch ?_))); (with_reducible refine' q_dq ?_ ?ne; (case ne => (with_unfolding_all conv => (lhs; whnf)))))
    (with_reducible refine' z_callC 0 ?e1 ?ec ?_; (case ec => (with_unfolding_all conv => (lhs; whnf; (try dsimp only)))); (case e1 => kernel_rfl))
    (with_reducible refine' z_againC 0 ?e1 ?ec ?_; (case ec => (with_unfolding_all conv => (lhs; whnf; (try dsimp only)))); (case e1 => kernel_rfl))
    (with_reducible refine' q_dq ?_ ?ne; (case ne => (with_unfolding_all conv => (lhs; whnf))))
    (with_reducible refine q_bind ?_; (repeat (first | (with_reducible refine q_bind ?_) | (with_reducible refine q_onRaise ?_) | (with_reducible refine q_keep ?_) | (with_reducible refine q_tryCatch ?_))); (with_reducible refine' q_dq ?_ ?ne; (case ne => (with_unfolding_all conv => (lhs; whnf)))))
    (with_reducible refine q_boolF ?bh ?_; (case bh => (first | kernel_rfl! | (apply not_t; with_unfolding_all exact contains_self) | (with_unfolding_all exact bneV_self) | (with_unfolding_all refine beqV_int ?bi; (case bi => omega)) | (with_unfolding_all refine beqI_no ?bi; (case bi => omega)) | (with_unfolding_all refine ltI_no ?bi; (case bi => omega)) | (apply and_l; kernel_rfl!) | (apply and_r; kernel_rfl!))); (repeat (first | (with_reducible refine q_bind ?_) | (with_reducible refine q_onRaise ?_) | (with_reducible refine q_keep ?_) | (with_reducible refine q_tryCatch ?_))); (with_reducible refine' q_dq ?_ ?ne; (case ne => (with_unfolding_all conv => (lhs; whnf)))))
    (with_reducible refine' z_unb 0 ?e1 ?_; (case e1 => kernel_rfl))
    (with_reducible refine' z_loadI 0 2 ?e1 ?e ?_; (case e => with_unfolding_all exact rfl); (case e1 => kernel_rfl))
    (with_reducible refine' z_loadI 0 2 ?e1 ?e ?_; (case e => with_unfolding_all exact rfl); (case e1 => kernel_rfl))
    (with_reducible refine' z_alloc had 0 63 ?e1 ?eo ?el ?hf ?_; (case eo => (with_unfolding_all conv => (lhs; whnf; (try dsimp only)))); (case e1 => kernel_rfl); (case el => with_unfolding_all exact rfl); (case hf => with_unfolding_all exact rfl))
    (with_reducible refine' z_ret 0 ?e1 ?_; (case e1 => kernel_rfl))
    (with_reducible refine' q_dq ?_ ?ne; (case ne => (with_unfolding_all conv => (lhs; whnf))))
    (with_reducible refine' z_unb 0 ?e1 ?_; (case e1 => kernel_rfl))
    (with_reducible refine' z_ret 0 ?e1 ?_; (case e1 => kernel_rfl))
    (with_reducible refine' q_dq ?_ ?ne; (case ne => (with_unfolding_all conv => (lhs; whnf))))
    (with_reducible refine' z_callC 0 ?e1 ?ec ?_; (case ec => (with_unfolding_all conv => (lhs; whnf; (try dsimp only)))); (case e1 => kernel_rfl))
    (with_reducible refine' z_loadI 0 0 ?e1 ?e ?_; (case e => with_unfolding_all exact rfl); (case e1 => kernel_rfl))
    (with_reducible refine' z_loadI 0 3 ?e1 ?e ?_; (case e => with_unfolding_all exact rfl); (case e1 => kernel_rfl))
    (with_reducible refine' z_loadI 0 3 ?e1 ?e ?_; (case e => with_unfolding_all exact rfl); (case e1 => kernel_rfl))
    (with_reducible refine' z_loadI 0 3 ?e1 ?e ?_; (case e => with_unfolding_all exact rfl); (case e1 => kernel_rfl))
    (with_reducible refine' z_loadI 0 3 ?e1 ?e ?_; (case e => with_unfolding_all exact rfl); (case e1 => kernel_rfl))
    (with_reducible refine' z_againC 0 ?e1 ?ec ?_; (case ec => (with_unfolding_all conv => (lhs; whnf; (try dsimp only)))); (case e1 => kernel_rfl))
    (with_reducible refine' z_ret 0 ?e1 ?_; (case e1 => kernel_rfl))
    (with_reducible refine' q_dq ?_ ?ne; (case ne => (with_unfolding_all conv => (lhs; whnf))))
    (with_reducible refine' z_ret 0 ?e1 ?_; (case e1 => kernel_rfl))
    (with_reducible refine' q_dq ?_ ?ne; (case ne => (with_unfolding_all conv => (lhs; whnf))))
    (with_reducible refine' z_loadI 0 3 ?e1 ?e ?_; (case e => with_unfolding_all exact rfl); (case e1 => kernel_rfl))
    (with_reducible refine' z_loadI 0 3 ?e1 ?e ?_; (case e => with_unfolding_all exact rfl); (case e1 => kernel_rfl))
    (with_reducible refine' z_callC 0 ?e1 ?ec ?_; (case ec => (with_unfolding_all conv => (lhs; whnf; (try dsimp only)))); (case e1 => kernel_rfl))
    (with_reducible refine' z_loadI 0 3 ?e1 ?e ?_; (case e => with_unfolding_all exact rfl); (case e1 => kernel_rfl))
    (with_reducible refine' z_againC 0 ?e1 ?ec ?_; (case ec => (with_unfolding_all conv => (lhs; whnf; (try dsimp only)))); (case e1 => kernel_rfl))
    (with_reducible refine' z_ret 0 ?e1 ?_; (case e1 => kernel_rfl))
    (with_reducible refine' q_dq ?_ ?ne; (case ne => (with_unfolding_all conv => (lhs; whnf))))
    (with_reducible refine' z_ret 0 ?e1 ?_; (case e1 => kernel_rfl))
    (with_reducible refine' q_dq ?_ ?ne; (case ne => (with_unfolding_all conv => (lhs; whnf))))
    (with_reducible refine' z_unb 0 ?e1 ?_; (case e1 => kernel_rfl))
    (with_reducible refine' z_loadI 1 63 ?e1 ?e ?_; (case e => with_unfolding_all exact rfl); (case e1 => kernel_rfl))
    (with_reducible refine' z_upd 0 63 ?e1 ?ei ?ef ?ue ?uf ?hn ?_; (case ei => with_unfolding_all exact rfl); (case ef => (with_unfolding_all conv => (lhs; whnf))); (case ue => (with_reducible refine' obj_dict ?de ?dh ?dl; (case de => with_unfolding_all exact rfl); (case dh => with_unfolding_all exact rfl); (case dl => (repeat (first | (apply NL.nil; with_unfolding_all exact rfl) | (apply NL.cons; with_unfolding_all exact rfl; ((with_unfolding_all conv => (lhs; whnf; (try dsimp only))); try rfl))))))); (case e1 => kernel_rfl); (case uf => with_unfolding_all exact rfl); (case hn => (conv => (lhs; simp only [List.set]))))
    (with_reducible refine' z_unb 0 ?e1 ?_; (case e1 => kernel_rfl))
    (with_reducible refine' z_loadI 0 63 ?e1 ?e ?_; (case e => with_unfolding_all exact rfl); (case e1 => kernel_rfl))
    (with_reducible refine' z_unb 0 ?e1 ?_; (case e1 => kernel_rfl))
    (with_reducible refine' q_dq ?_ ?ne; (case ne => (with_unfolding_all conv => (lhs; whnf))))
    (with_reducible refine q_pure ?_)
    (with_reducible refine q_done ?_)
    refine q_end rfl ?_
    intro h D hs
    exact HK h _ D hs
end Mine
end
section
open PySem PySem.W PySem.W.X PySem.Calls PyProof.Rows
set_option Elab.async false
set_option maxRecDepth 100000
set_option maxHeartbeats 0
namespace Mine

theorem newK {w : World} {h₀ : Heap} {g₀ : Array GenState} {d₀ : Drawn} {t₀ : Nat} {os₀ : OsState} {F x : Addr} {Q : Value → Shared → Prop} {E : Value → Shared → Prop} {A : Around} {env : List Env} {ad kd : Nat → Addr} {tc : Nat} {ox : Obj}
   (KX : (Mine.hd.heap_1 w.params).In h₀) (hdp : A.depth + 100 < recursionLimit) (hun : A.units + 200 < cLine) (hfr : A.frames = some env)
   (had : Offs ad) (hlow : 120 < ad 0) (hsz : h₀.objs.size = ad 0) (hkd : Offs kd) (hklow : 120 < kd 0)
   (CK : ∀ p ∈ ckD.1 w tc F kd, h₀.get? p.1 = some p.2) (hx : h₀.get? x = some ox)
   (HK : ∀ h' tk, h₀.StaysIn h' → h'.get? (ad 1) = some { cls := .ref (kd 60), dict := some (ad 0), slots := #[some (.ref x)] } → h'.objs.size = ad 3 → Q (.ref (ad 1)) ⟨h', g₀, d₀, tk, os₀⟩) : wpAny (model PySem.Challenge.rw_ny0103_01.row.prog w) A (call (.ref (kd 60)) [.ref x]) Q E ⟨h₀, g₀, d₀, t₀, os₀⟩ := by
  with_unfolding_all refine q_start (by intro h; cases h) hsz ?_
  refine q_code ?_
  (with_reducible refine' z_loadL 0 3 ?e1 CK ?e ?hc ?_; (case e => with_unfolding_all exact rfl); (case e1 => kernel_rfl); (case hc => with_unfolding_all exact rfl))
  (with_reducible refine' z_loadL 0 3 ?e1 CK ?e ?hc ?_; (case e => with_unfolding_all exact rfl); (case e1 => kernel_rfl); (case hc => with_unfolding_all exact rfl))
  (with_reducible refine' z_againC 0 ?e1 ?ec ?_; (case ec => (with_unfolding_all conv => (lhs; whnf; (try dsimp only)))); (case e1 => kernel_rfl))
  (with_reducible refine' z_loadL 0 3 ?e1 CK ?e ?hc ?_; (case e => with_unfolding_all exact rfl); (case e1 => kernel_rfl); (case hc => with_unfolding_all exact rfl))
  (with_reducible refine' z_againC 0 ?e1 ?ec ?_; (case ec => (with_unfolding_all conv => (lhs; whnf; (try dsimp only)))); (case e1 => kernel_rfl))
  (with_reducible refine' z_loadL 0 3 ?e1 CK ?e ?hc ?_; (case e => with_unfolding_all exact rfl); (case e1 => kernel_rfl); (case hc => with_unfolding_all exact rfl))
  (with_reducible refine' z_loadL 0 3 ?e1 CK ?e ?hc ?_; (case e => with_unfolding_all exact rfl); (case e1 => kernel_rfl); (case hc => with_unfolding_all exact rfl))
  (with_reducible refine' z_loadL 0 3 ?e1 CK ?e ?hc ?_; (case e => with_unfolding_all exact rfl); (case e1 => kernel_rfl); (case hc => with_unfolding_all exact rfl))
  (with_reducible refine' z_callC 0 ?e1 ?ec ?_; (case ec => (with_unfolding_all conv => (lhs; whnf; (try dsimp only)))); (case e1 => kernel_rfl))
  (with_reducible refine' z_loadL 0 3 ?e1 CK ?e ?hc ?_; (case e => with_unfolding_all exact rfl); (case e1 => kernel_rfl); (case hc => with_unfolding_all exact rfl))
  (with_reducible refine' q_dq ?_ ?ne; (case ne => (with_unfolding_all conv => (lhs; whnf))))
  (with_reducible refine' z_loadL 0 3 ?e1 CK ?e ?hc ?_; (case e => with_unfolding_all exact rfl); (case e1 => kernel_rfl); (case hc => with_unfolding_all exact rfl))
  (with_reducible refine' z_loadL 0 3 ?e1 CK ?e ?hc ?_; (case e => with_unfolding_all exact rfl); (case e1 => kernel_rfl); (case hc => with_unfolding_all exact rfl))
  (with_reducible refine' z_loadL 0 3 ?e1 CK ?e ?hc ?_; (case e => with_unfolding_all exact rfl); (case e1 => kernel_rfl); (case hc => with_unfolding_all exact rfl))
  (with_reducible refine' z_loadL 0 3 ?e1 CK ?e ?hc ?_; (case e => with_unfolding_all exact rfl); (case e1 => kernel_rfl); (case hc => with_unfolding_all exact rfl))
  (with_reducible refine' z_loadL 0 3 ?e1 CK ?e ?hc ?_; (case e => with_unfolding_all exact rfl); (case e1 => kernel_rfl); (case hc => with_unfolding_all exact rfl))
  (with_reducible refine' z_loadL 0 3 ?e1 CK ?e ?hc ?_; (case e => with_unfolding_all exact rfl); (case e1 => kernel_rfl); (case hc => with_unfolding_all exact rfl))
  (with_reducible refine' z_againC 0 ?e1 ?ec ?_; (case ec => (with_unfolding_all conv => (lhs; whnf; (try dsimp only)))); (case e1 => kernel_rfl))
  (with_reducible refine' z_loadL 0 3 ?e1 CK ?e ?hc ?_; (case e => with_unfolding_all exact rfl); (case e1 => kernel_rfl); (case hc => with_unfolding_all exact rfl))
  (with_reducible refine' z_loadL 0 3 ?e1 CK ?e ?hc ?_; (case e => with_unfolding_all exact rfl); (case e1 => kernel_rfl); (case hc => with_unfolding_all exact rfl))
  (with_reducible refine' z_loadL 0 3 ?e1 CK ?e ?hc ?_; (case e => with_unfolding_all exact rfl); (case e1 => kernel_rfl); (case hc => with_unfolding_all exact rfl))
  (with_reducible refine' q_dq ?_ ?ne; (case ne => (with_unfolding_all conv => (lhs; whnf))))
  (with_reducible refine' z_loadL 0 3 ?e1 CK ?e ?hc ?_; (case e => with_unfolding_all exact rfl); (case e1 => kernel_rfl); (case hc => with_unfolding_all exact rfl))
  (with_reducible refine' z_loadL 0 3 ?e1 CK ?e ?hc ?_; (case e => with_unfolding_all exact rfl); (case e1 => kernel_rfl); (case hc => with_unfolding_all exact rfl))
  (with_reducible refine' z_loadL 0 3 ?e1 CK ?e ?hc ?_; (case e => with_unfolding_all exact rfl); (case e1 => kernel_rfl); (case hc => with_unfolding_all exact rfl))
  (with_reducible refine' z_loadL 0 3 ?e1 CK ?e ?hc ?_; (case e => with_unfolding_all exact rfl); (case e1 => kernel_rfl); (case hc => with_unfolding_all exact rfl))
  (with_reducible refine' z_loadL 0 3 ?e1 CK ?e ?hc ?_; (case e => with_unfolding_all exact rfl); (case e1 => kernel_rfl); (case hc => with_unfolding_all exact rfl))
  (with_reducible refine' z_loadL 0 3 ?e1 CK ?e ?hc ?_; (case e => with_unfolding_all exact rfl); (case e1 => kernel_rfl); (case hc => with_unfolding_all exact rfl))
  (with_reducible refine' z_loadL 0 3 ?e1 CK ?e ?hc ?_; (case e => with_unfolding_all exact rfl); (case e1 => kernel_rfl); (case hc => with_unfolding_all exact rfl))
  (with_reducible refine' z_loadL 0 4 ?e1 CK ?e ?hc ?_; (case e => with_unfolding_all exact rfl); (case e1 => kernel_rfl); (case hc => with_unfolding_all exact rfl))
  (with_reducible refine' z_loadL 0 3 ?e1 CK ?e ?hc ?_; (case e => with_unfolding_all exact rfl); (case e1 => kernel_rfl); (case hc => with_unfolding_all exact rfl))
  (with_reducible refine' z_alloc had 0 0 ?e1 ?eo ?el ?hf ?_; (case eo => (with_unfolding_all conv => (lhs; whnf; (try dsimp only)))); (case e1 => kernel_rfl); (case el => with_unfolding_all exact rfl); (case hf => with_unfolding_all exact rfl))
  (with_reducible refine' q_dq ?_ ?ne; (case ne => (with_unfolding_all conv => (lhs; whnf))))
  (with_reducible refine' z_alloc had 0 1 ?e1 ?eo ?el ?hf ?_; (case eo => (with_unfolding_all conv => (lhs; whnf; (try dsimp only)))); (case e1 => kernel_rfl); (case el => with_unfolding_all exact rfl); (case hf => with_unfolding_all exact rfl))
  (with_reducible refine' z_loadL 0 3 ?e1 CK ?e ?hc ?_; (case e => with_unfolding_all exact rfl); (case e1 => kernel_rfl); (case hc => with_unfolding_all exact rfl))
  (with_reducible refine' z_ret 0 ?e1 ?_; (case e1 => kernel_rfl))
  (with_reducible refine' q_dq ?_ ?ne; (case ne => (with_unfolding_all conv => (lhs; whnf))))
  (with_reducible refine' z_loadI 0 0 ?e1 ?e ?_; (case e => with_unfolding_all exact rfl); (case e1 => kernel_rfl))
  (with_reducible refine' z_loadL 0 3 ?e1 CK ?e ?hc ?_; (case e => with_unfolding_all exact rfl); (case e1 => kernel_rfl); (case hc => with_unfolding_all exact rfl))
  (with_reducible refine' q_dq ?_ ?ne; (case ne => (with_unfolding_all conv => (lhs; whnf))))
  (with_reducible refine q_boolF ?bh ?_; (case bh => (first | kernel_rfl! | (apply not_t; with_unfolding_all exact contains_self) | (with_unfolding_all exact bneV_self) | (with_unfolding_all refine beqV_int ?bi; (case bi => omega)) | (with_unfolding_all refine beqI_no ?bi; (case bi => omega)) | (with_unfolding_all refine ltI_no ?bi; (case bi => omega)) | (apply and_l; kernel_rfl!) | (apply and_r; kernel_rfl!))); (repeat (first | (with_reducible refine q_bind ?_) | (with_reducible refine q_onRaise ?_) | (with_reducible refine q_keep ?_) | (with_reducible refine q_tryCatch ?_))); (with_reducible refine' q_dq ?_ ?ne; (case ne => (with_unfolding_all conv => (lhs; whnf)))))
  (with_reducible refine' z_loadI 0 0 ?e1 ?e ?_; (case e => with_unfolding_all exact rfl); (case e1 => kernel_rfl))
  (with_reducible refine' z_loadL 0 3 ?e1 CK ?e ?hc ?_; (case e => with_unfolding_all exact rfl); (case e1 => kernel_rfl); (case hc => with_unfolding_all exact rfl))
  (with_reducible refine' z_loadL 0 3 ?e1 CK ?e ?hc ?_; (case e => with_unfolding_all exact rfl); (case e1 => kernel_rfl); (case hc => with_unfolding_all exact rfl))
  (with_reducible refine' z_loadL 0 4 ?e1 CK ?e ?hc ?_; (case e => with_unfolding_all exact rfl); (case e1 => kernel_rfl); (case hc => with_unfolding_all exact rfl))
  (with_reducible refine' z_loadL 0 47 ?e1 CK ?e ?hc ?_; (case e => with_unfolding_all exact rfl); (case e1 => kernel_rfl); (case hc => with_unfolding_all exact rfl))
  (with_reducible refine' z_callC 0 ?e1 ?ec ?_; (case ec => (with_unfolding_all conv => (lhs; whnf; (try dsimp only)))); (case e1 => kernel_rfl))
  (with_reducible refine' z_loadL 0 47 ?e1 CK ?e ?hc ?_; (case e => with_unfolding_all exact rfl); (case e1 => kernel_rfl); (case hc => with_unfolding_all exact rfl))
  (with_reducible refine' z_loadL 0 48 ?e1 CK ?e ?hc ?_; (case e => with_unfolding_all exact rfl); (case e1 => kernel_rfl); (case hc => with_unfolding_all exact rfl))
  (with_reducible refine' z_alloc had 0 2 ?e1 ?eo ?el ?hf ?_; (case eo => (with_unfolding_all conv => (lhs; whnf; (try dsimp only)))); (case e1 => kernel_rfl); (case el => with_unfolding_all exact rfl); (case hf => with_unfolding_all exact rfl))
  (with_reducible refine' z_loadI 1 0 ?e1 ?e ?_; (case e => with_unfolding_all exact rfl); (case e1 => kernel_rfl))
  (with_reducible refine' q_dq ?_ ?ne; (case ne => (with_unfolding_all conv => (lhs; whnf))))
  (with_reducible refine' z_upd 0 0 ?e1 ?ei ?ef ?ue ?uf ?hn ?_; (case ei => with_unfolding_all exact rfl); (case ef => (with_unfolding_all conv => (lhs; whnf))); (case ue => (with_reducible refine' obj_dict ?de ?dh ?dl; (case de => with_unfolding_all exact rfl); (case dh => with_unfolding_all exact rfl); (case dl => (repeat (first | (apply NL.nil; with_unfolding_all exact rfl) | (apply NL.cons; with_unfolding_all exact rfl; ((with_unfolding_all conv => (lhs; whnf; (try dsimp only))); try rfl))))))); (case e1 => kernel_rfl); (case uf => with_unfolding_all exact rfl); (case hn => (conv => (lhs; simp only [List.set]))))
  (with_reducible refine' z_loadI 1 0 ?e1 ?e ?_; (case e => with_unfolding_all exact rfl); (case e1 => kernel_rfl))
  (with_reducible refine' z_upd 0 0 ?e1 ?ei ?ef ?ue ?uf ?hn ?_; (case ei => with_unfolding_all exact rfl); (case ef => (with_unfolding_all conv => (lhs; whnf))); (case ue => (with_reducible refine' obj_dict ?de ?dh ?dl; (case de => with_unfolding_all exact rfl); (case dh => with_unfolding_all exact rfl); (case dl => (repeat (first | (apply NL.nil; with_unfolding_all exact rfl) | (apply NL.cons; with_unfolding_all exact rfl; ((with_unfolding_all conv => (lhs; whnf; (try dsimp only))); try rfl))))))); (case e1 => kernel_rfl); (case uf => with_unfolding_all exact rfl); (case hn => (conv => (lhs; simp only [List.set]))))
  (with_reducible refine' z_stack 0 ?e1 ?_; (case e1 => kernel_rfl); intro p l)
  (with_reducible refine' z_loadK 0 2 ?e1 KX ?e ?hc ?_; (case e => with_unfolding_all exact rfl); (case e1 => kernel_rfl); (case hc => with_unfolding_all exact rfl))
  (with_reducible refine' q_dq ?_ ?ne; (case ne => (with_unfolding_all conv => (lhs; whnf))))
  (with_reducible refine q_bind ?_; (repeat (first | (with_reducible refine q_bind ?_) | (with_reducible refine q_onRaise ?_) | (with_reducible refine q_keep ?_) | (with_reducible refine q_tryCatch ?_))); (with_reducible refine' q_dq ?_ ?ne; (case ne => (with_unfolding_all conv => (lhs; whnf)))))
  (with_reducible refine' z_unb 0 ?e1 ?_; (case e1 => kernel_rfl))
  (with_reducible refine' z_unb 0 ?e1 ?_; (case e1 => kernel_rfl))
  (with_reducible refine' z_unb 0 ?e1 ?_; (case e1 => kernel_rfl))
  (with_reducible refine' q_dq ?_ ?ne; (case ne => (with_unfolding_all conv => (lhs; whnf))))
  (with_reducible refine' q_dq ?_ ?ne; (case ne => (rw [near_f l (by refine dep0 ?_; (repeat (first | (with_reducible refine dep_mark ?_) | (with_reducible refine dep_under ?hw ?_; (case hw => kernel_rfl!)))); omega)])); (repeat (first | (with_reducible refine q_bind ?_) | (with_reducible refine q_onRaise ?_) | (with_reducible refine q_keep ?_) | (with_reducible refine q_tryCatch ?_))); (with_reducible refine' q_dq ?_ ?ne; (case ne => (with_unfolding_all conv => (lhs; whnf)))))
  (with_reducible refine' q_dq ?_ ?ne; (case ne => (rw [over_f l (by refine dep0 ?_; (repeat (first | (with_reducible refine dep_mark ?_) | (with_reducible refine dep_under ?hw ?_; (case hw => kernel_rfl!)))); omega)])); (repeat (first | (with_reducible refine q_bind ?_) | (with_reducible refine q_onRaise ?_) | (with_reducible refine q_keep ?_) | (with_reducible refine q_tryCatch ?_))); (with_reducible refine' q_dq ?_ ?ne; (case ne => (with_unfolding_all conv => (lhs; whnf)))))
  (with_reducible refine' q_dq ?_ ?ne; (case ne => (rw [warm_f l (by refine dep0 ?_; (repeat (first | (with_reducible refine dep_mark ?_) | (with_reducible refine dep_under ?hw ?_; (case hw => kernel_rfl!)))); omega)])); (repeat (first | (with_reducible refine q_bind ?_) | (with_reducible refine q_onRaise ?_) | (with_reducible refine q_keep ?_) | (with_reducible refine q_tryCatch ?_))); (with_reducible refine' q_dq ?_ ?ne; (case ne => (with_unfolding_all conv => (lhs; whnf)))))
  (with_reducible refine' z_unb 0 ?e1 ?_; (case e1 => kernel_rfl))
  (with_reducible refine' z_againC 0 ?e1 ?ec ?_; (case ec => (with_unfolding_all conv => (lhs; whnf; (try dsimp only)))); (case e1 => kernel_rfl))
  (with_reducible refine' z_loadI 0 0 ?e1 ?e ?_; (case e => with_unfolding_all exact rfl); (case e1 => kernel_rfl))
  (with_reducible refine' z_loadI 0 0 ?e1 ?e ?_; (case e => with_unfolding_all exact rfl); (case e1 => kernel_rfl))
  (with_reducible refine' z_loadI 1 1 ?e1 ?e ?_; (case e => with_unfolding_all exact rfl); (case e1 => kernel_rfl))
  (with_reducible refine' z_loadL 0 3 ?e1 CK ?e ?hc ?_; (case e => with_unfolding_all exact rfl); (case e1 => kernel_rfl); (case hc => with_unfolding_all exact rfl))
  (with_reducible refine' z_loadL 0 3 ?e1 CK ?e ?hc ?_; (case e => with_unfolding_all exact rfl); (case e1 => kernel_rfl); (case hc => with_unfolding_all exact rfl))
  (with_reducible refine' z_loadL 0 4 ?e1 CK ?e ?hc ?_; (case e => with_unfolding_all exact rfl); (case e1 => kernel_rfl); (case hc => with_unfolding_all exact rfl))
  (with_reducible refine' z_callC 0 ?e1 ?ec ?_; (case ec => (with_unfolding_all conv => (lhs; whnf; (try dsimp only)))); (case e1 => kernel_rfl))
  (with_reducible refine' z_loadI 0 1 ?e1 ?e ?_; (case e => with_unfolding_all exact rfl); (case e1 => kernel_rfl))
  (with_reducible refine' q_dq ?_ ?ne; (case ne => (with_unfolding_all conv => (lhs; whnf))))
  (with_reducible refine' z_loadL 0 3 ?e1 CK ?e ?hc ?_; (case e => with_unfolding_all exact rfl); (case e1 => kernel_rfl); (case hc => with_unfolding_all exact rfl))
  (with_reducible refine' z_againC 0 ?e1 ?ec ?_; (case ec => (with_unfolding_all conv => (lhs; whnf; (try dsimp only)))); (case e1 => kernel_rfl))
  (with_reducible refine' z_loadI 0 1 ?e1 ?e ?_; (case e => with_unfolding_all exact rfl); (case e1 => kernel_rfl))
  (with_reducible refine' z_loadL 0 3 ?e1 CK ?e ?hc ?_; (case e => with_unfolding_all exact rfl); (case e1 => kernel_rfl); (case hc => with_unfolding_all exact rfl))
  (with_reducible refine' z_loadI 0 1 ?e1 ?e ?_; (case e => with_unfolding_all exact rfl); (case e1 => kernel_rfl))
  (with_reducible refine' z_loadL 0 3 ?e1 CK ?e ?hc ?_; (case e => with_unfolding_all exact rfl); (case e1 => kernel_rfl); (case hc => with_unfolding_all exact rfl))
  (with_reducible refine' z_loadL 0 3 ?e1 CK ?e ?hc ?_; (case e => with_unfolding_all exact rfl); (case e1 => kernel_rfl); (case hc => with_unfolding_all exact rfl))
  (with_reducible refine' z_loadL 0 4 ?e1 CK ?e ?hc ?_; (case e => with_unfolding_all exact rfl); (case e1 => kernel_rfl); (case hc => with_unfolding_all exact rfl))
  (with_reducible refine' z_loadL 0 2 ?e1 CK ?e ?hc ?_; (case e => with_unfolding_all exact rfl); (case e1 => kernel_rfl); (case hc => with_unfolding_all exact rfl))
  (with_reducible refine' z_loadL 0 2 ?e1 CK ?e ?hc ?_; (case e => with_unfolding_all exact rfl); (case e1 => kernel_rfl); (case hc => with_unfolding_all exact rfl))
  (with_reducible refine' z_callC 0 ?e1 ?ec ?_; (case ec => (with_unfolding_all conv => (lhs; whnf; (try dsimp only)))); (case e1 => kernel_rfl))
  (with_reducible refine' q_dq ?_ ?ne; (case ne => (with_unfolding_all conv => (lhs; whnf))))
  (with_reducible refine' z_loadL 0 2 ?e1 CK ?e ?hc ?_; (case e => with_unfolding_all exact rfl); (case e1 => kernel_rfl); (case hc => with_unfolding_all exact rfl))
  (with_reducible refine' z_againC 0 ?e1 ?ec ?_; (case ec => (with_unfolding_all conv => (lhs; whnf; (try dsimp only)))); (case e1 => kernel_rfl))
  (with_reducible refine' z_loadL 0 2 ?e1 CK ?e ?hc ?_; (case e => with_unfolding_all exact rfl); (case e1 => kernel_rfl); (case hc => with_unfolding_all exact rfl))
  (with_reducible refine' z_loadL 0 2 ?e1 CK ?e ?hc ?_; (case e => with_unfolding_all exact rfl); (case e1 => kernel_rfl); (case hc => with_unfolding_all exact rfl))
  (with_reducible refine' z_loadI 0 1 ?e1 ?e ?_; (case e => with_unfolding_all exact rfl); (case e1 => kernel_rfl))
  (with_reducible refine' z_loadL 0 3 ?e1 CK ?e ?hc ?_; (case e => with_unfolding_all exact rfl); (case e1 => kernel_rfl); (case hc => with_unfolding_all exact rfl))
  (with_reducible refine' q_dq ?_ ?ne; (case ne => (with_unfolding_all conv => (lhs; whnf))))
  (with_reducible refine q_bind ?_; (repeat (first | (with_reducible refine q_bind ?_) | (with_reducible refine q_onRaise ?_) | (with_reducible refine q_keep ?_) | (with_reducible refine q_tryCatch ?_))); (with_reducible refine' q_dq ?_ ?ne; (case ne => (with_unfolding_all conv => (lhs; whnf)))))
  (with_reducible refine' z_unb 0 ?e1 ?_; (case e1 => kernel_rfl))
  (with_reducible refine' z_unb 0 ?e1 ?_; (case e1 => kernel_rfl))
  (with_reducible refine' z_unb 0 ?e1 ?_; (case e1 => kernel_rfl))
  (with_reducible refine' z_unb 0 ?e1 ?_; (case e1 => kernel_rfl))
  (with_reducible refine' q_dq ?_ ?ne; (case ne => (with_unfolding_all conv => (lhs; whnf))))
  (with_reducible refine q_boolF ?bh ?_; (case bh => (first | kernel_rfl! | (apply not_t; with_unfolding_all exact contains_self) | (with_unfolding_all exact bneV_self) | (with_unfolding_all refine beqV_int ?bi; (case bi => omega)) | (with_unfolding_all refine beqI_no ?bi; (case bi => omega)) | (with_unfolding_all refine ltI_no ?bi; (case bi => omega)) | (apply and_l; kernel_rfl!) | (apply and_r; kernel_rfl!))); (repeat (first | (with_reducible refine q_bind ?_) | (with_reducible refine q_onRaise ?_) | (with_reducible refine q_keep ?_) | (with_reducible refine q_tryCatch ?_))); (with_reducible refine' q_dq ?_ ?ne; (case ne => (with_unfolding_all conv => (lhs; whnf)))))
  (with_reducible refine' z_unb 0 ?e1 ?_; (case e1 => kernel_rfl))
  (with_reducible refine' z_loadL 0 2 ?e1 CK ?e ?hc ?_; (case e => with_unfolding_all exact rfl); (case e1 => kernel_rfl); (case hc => with_unfolding_all exact rfl))
  (with_reducible refine' z_loadL 0 2 ?e1 CK ?e ?hc ?_; (case e => with_unfolding_all exact rfl); (case e1 => kernel_rfl); (case hc => with_unfolding_all exact rfl))
  (with_reducible refine' z_againC 0 ?e1 ?ec ?_; (case ec => (with_unfolding_all conv => (lhs; whnf; (try dsimp only)))); (case e1 => kernel_rfl))
  (with_reducible refine' z_loadL 0 2 ?e1 CK ?e ?hc ?_; (case e => with_unfolding_all exact rfl); (case e1 => kernel_rfl); (case hc => with_unfolding_all exact rfl))
  (with_reducible refine' z_loadL 0 2 ?e1 CK ?e ?hc ?_; (case e => with_unfolding_all exact rfl); (case e1 => kernel_rfl); (case hc => with_unfolding_all exact rfl))
  (with_reducible refine' z_loadI 0 1 ?e1 ?e ?_; (case e => with_unfolding_all exact rfl); (case e1 => kernel_rfl))
  (with_reducible refine' z_loadL 0 3 ?e1 CK ?e ?hc ?_; (case e => with_unfolding_all exact rfl); (case e1 => kernel_rfl); (case hc => with_unfolding_all exact rfl))
  (with_reducible refine' z_upd 0 1 ?e1 ?ei ?ef ?ue ?uf ?hn ?_; (case ei => with_unfolding_all exact rfl); (case ef => (with_unfolding_all conv => (lhs; whnf))); (case ue => (refine' slot_upd ?sl; (case sl => (repeat (first | (apply NL.nil; with_unfolding_all exact rfl) | (apply NL.cons; with_unfolding_all exact rfl; ((with_unfolding_all conv => (lhs; whnf; (try dsimp only))); try rfl))))))); (case e1 => kernel_rfl); (case uf => with_unfolding_all exact rfl); (case hn => (conv => (lhs; simp only [List.set]))))
  (with_reducible refine' z_ret 0 ?e1 ?_; (case e1 => kernel_rfl))
  (with_reducible refine' q_dq ?_ ?ne; (case ne => (with_unfolding_all conv => (lhs; whnf))))
  (with_reducible refine' z_ret 0 ?e1 ?_; (case e1 => kernel_rfl))
  (with_reducible refine' q_dq ?_ ?ne; (case ne => (with_unfolding_all conv => (lhs; whnf))))
  (with_reducible refine' z_ret 0 ?e1 ?_; (case e1 => kernel_rfl))
  (with_reducible refine' q_dq ?_ ?ne; (case ne => (with_unfolding_all conv => (lhs; whnf))))
  (with_reducible refine q_pure ?_)
  (with_reducible refine q_done ?_)
  refine q_end rfl ?_
  intro h D hs
  exact HK h _ (Mem.stays D) (D.nw _ (.tail _ (.head _))).1 hs

theorem ltK {w : World} {h₀ : Heap} {g₀ : Array GenState} {d₀ : Drawn} {t₀ : Nat} {os₀ : OsState} {F x y i j : Addr} {di dj : Option Addr} {Q : Option Value → Shared → Prop} {E : Value → Shared → Prop} {A : Around} {env : List Env} {ad kd : Nat → Addr} {tc : Nat} {n : Int}
   (KX : (Mine.hd.heap_1 w.params).In h₀) (hdp : A.depth + 100 < recursionLimit) (hun : A.units + 200 < cLine) (hfr : A.frames = some env)
   (had : Offs ad) (hlow : 120 < ad 0) (hsz : h₀.objs.size = ad 0) (hkd : Offs kd) (hklow : 120 < kd 0)
   (CK : ∀ p ∈ ckD.1 w tc F kd, h₀.get? p.1 = some p.2) (hi : h₀.get? i = some { cls := .ref (kd 60), dict := di, slots := #[some (.ref x)] }) (hj : h₀.get? j = some { cls := .ref (kd 60), dict := dj, slots := #[some (.ref y)] })
   {fd : FuncData} (hF : h₀.get? F = some { cls := .type "function", data := .func fd })
   {P : Heap → Addr → Heap → Prop} (HF : ∀ (A' : Around) (R : Result → Shared → Prop) (h : Heap) (t : Nat) (e1 : Env) (L1 : Addr) (o1 : Obj), A'.depth < A.depth + 50 → A'.units < A.units + 100 → A'.frames = some (e1 :: env) → A'.handled = A.handled → e1.scope.kind ≠ .module → e1.frame = some L1 → h.get? L1 = some o1 → (∀ vs, o1.data ≠ .fields vs) → h₀.get? L1 = none → h₀.StaysIn h → (∀ tok h' tk, P h L1 h' → R (.ok (.ret (.int n tok))) ⟨h', g₀, d₀, tk, os₀⟩) → codeAny (model PySem.Challenge.rw_ny0103_01.row.prog w) A' (.call (.ref F) ⟨[.ref x, .ref y], []⟩) R ⟨h, g₀, d₀, t, os₀⟩)
   (HK : ∀ L1 h h' h'' tk, h₀.StaysIn h → h₀.get? L1 = none → P h L1 h' → h'.StaysIn h'' → Q (some (.bool (decide (n < 0)))) ⟨h'', g₀, d₀, tk, os₀⟩) : wpAny (model PySem.Challenge.rw_ny0103_01.row.prog w) A (callSpecialIfBound? (.ref i) (Str.ofString "__lt__") [.ref j]) Q E ⟨h₀, g₀, d₀, t₀, os₀⟩ := by
  rw [PySem.W.XFast.xe5748314443788414978]
  refine p_start hsz ?_
  (with_reducible refine' p_dq ?_ ?ne; (case ne => (with_unfolding_all conv => (lhs; whnf))))
  (with_reducible refine p_loadH hi (by first | exact rfl | exact or_r rfl) ?_; (repeat (first | (with_reducible refine p_bind ?_) | (with_reducible refine p_onRaise ?_) | (with_reducible refine p_keep ?_) | (with_reducible refine p_tryCatch ?_))))
  (with_unfolding_all refine p_unb ?_; (repeat (first | (with_reducible refine p_bind ?_) | (with_reducible refine p_onRaise ?_) | (with_reducible refine p_keep ?_) | (with_reducible refine p_tryCatch ?_))))
  (with_unfolding_all refine p_unb ?_; (repeat (first | (with_reducible refine p_bind ?_) | (with_reducible refine p_onRaise ?_) | (with_reducible refine p_keep ?_) | (with_reducible refine p_tryCatch ?_))))
  (with_unfolding_all refine' p_loadL CK 3 ?e ?hc ?_; (case e => with_unfolding_all exact rfl); (case hc => with_unfolding_all exact rfl); (repeat (first | (with_reducible refine p_bind ?_) | (with_reducible refine p_onRaise ?_) | (with_reducible refine p_keep ?_) | (with_reducible refine p_tryCatch ?_))))
  (with_unfolding_all refine p_unb ?_; (repeat (first | (with_reducible refine p_bind ?_) | (with_reducible refine p_onRaise ?_) | (with_reducible refine p_keep ?_) | (with_reducible refine p_tryCatch ?_))))
  (with_unfolding_all refine p_unb ?_; (repeat (first | (with_reducible refine p_bind ?_) | (with_reducible refine p_onRaise ?_) | (with_reducible refine p_keep ?_) | (with_reducible refine p_tryCatch ?_))))
  (with_unfolding_all refine p_unb ?_; (repeat (first | (with_reducible refine p_bind ?_) | (with_reducible refine p_onRaise ?_) | (with_reducible refine p_keep ?_) | (with_reducible refine p_tryCatch ?_))))
  (with_unfolding_all refine' p_loadL CK 3 ?e ?hc ?_; (case e => with_unfolding_all exact rfl); (case hc => with_unfolding_all exact rfl); (repeat (first | (with_reducible refine p_bind ?_) | (with_reducible refine p_onRaise ?_) | (with_reducible refine p_keep ?_) | (with_reducible refine p_tryCatch ?_))))
  (with_unfolding_all refine p_unb ?_; (repeat (first | (with_reducible refine p_bind ?_) | (with_reducible refine p_onRaise ?_) | (with_reducible refine p_keep ?_) | (with_reducible refine p_tryCatch ?_))))
  (with_unfolding_all refine p_unb ?_; (repeat (first | (with_reducible refine p_bind ?_) | (with_reducible refine p_onRaise ?_) | (with_reducible refine p_keep ?_) | (with_reducible refine p_tryCatch ?_))))
  (with_unfolding_all refine' p_loadL CK 4 ?e ?hc ?_; (case e => with_unfolding_all exact rfl); (case hc => with_unfolding_all exact rfl); (repeat (first | (with_reducible refine p_bind ?_) | (with_reducible refine p_onRaise ?_) | (with_reducible refine p_keep ?_) | (with_reducible refine p_tryCatch ?_))))
  (with_unfolding_all refine p_unb ?_; (repeat (first | (with_reducible refine p_bind ?_) | (with_reducible refine p_onRaise ?_) | (with_reducible refine p_keep ?_) | (with_reducible refine p_tryCatch ?_))))
  (with_unfolding_all refine p_unb ?_; (repeat (first | (with_reducible refine p_bind ?_) | (with_reducible refine p_onRaise ?_) | (with_reducible refine p_keep ?_) | (with_reducible refine p_tryCatch ?_))))
  (with_unfolding_all refine p_unb ?_; (repeat (first | (with_reducible refine p_bind ?_) | (with_reducible refine p_onRaise ?_) | (with_reducible refine p_keep ?_) | (with_reducible refine p_tryCatch ?_))))
  (with_unfolding_all refine p_unb ?_; (repeat (first | (with_reducible refine p_bind ?_) | (with_reducible refine p_onRaise ?_) | (with_reducible refine p_keep ?_) | (with_reducible refine p_tryCatch ?_))))
  (with_unfolding_all refine p_unb ?_; (repeat (first | (with_reducible refine p_bind ?_) | (with_reducible refine p_onRaise ?_) | (with_reducible refine p_keep ?_) | (with_reducible refine p_tryCatch ?_))))
  (with_unfolding_all refine p_ask ?_; (repeat (first | (with_reducible refine p_bind ?_) | (with_reducible refine p_onRaise ?_) | (with_reducible refine p_keep ?_) | (with_reducible refine p_tryCatch ?_))))
  (with_unfolding_all refine p_unb ?_; (repeat (first | (with_reducible refine p_bind ?_) | (with_reducible refine p_onRaise ?_) | (with_reducible refine p_keep ?_) | (with_reducible refine p_tryCatch ?_))); (with_reducible refine' p_dq ?_ ?ne; (case ne => (with_unfolding_all conv => (lhs; whnf)))))
  (with_reducible refine p_follow ?_; (repeat (first | (with_reducible refine p_bind ?_) | (with_reducible refine p_onRaise ?_) | (with_reducible refine p_keep ?_) | (with_reducible refine p_tryCatch ?_))))
  (with_unfolding_all refine' p_loadL CK 39 ?e ?hc ?_; (case e => with_unfolding_all exact rfl); (case hc => with_unfolding_all exact rfl); (repeat (first | (with_reducible refine p_bind ?_) | (with_reducible refine p_onRaise ?_) | (with_reducible refine p_keep ?_) | (with_reducible refine p_tryCatch ?_))))
  (with_unfolding_all refine p_unb ?_; (repeat (first | (with_reducible refine p_bind ?_) | (with_reducible refine p_onRaise ?_) | (with_reducible refine p_keep ?_) | (with_reducible refine p_tryCatch ?_))))
  (with_unfolding_all refine p_unb ?_; (repeat (first | (with_reducible refine p_bind ?_) | (with_reducible refine p_onRaise ?_) | (with_reducible refine p_keep ?_) | (with_reducible refine p_tryCatch ?_))))
  (with_unfolding_all refine p_unb ?_; (repeat (first | (with_reducible refine p_bind ?_) | (with_reducible refine p_onRaise ?_) | (with_reducible refine p_keep ?_) | (with_reducible refine p_tryCatch ?_))))
  (with_unfolding_all refine p_unb ?_; (repeat (first | (with_reducible refine p_bind ?_) | (with_reducible refine p_onRaise ?_) | (with_reducible refine p_keep ?_) | (with_reducible refine p_tryCatch ?_))); (with_reducible refine' p_dq ?_ ?ne; (case ne => (with_unfolding_all conv => (lhs; whnf)))))
  (with_reducible refine p_call (Option.some_ne_none _).symm ?_; ((with_reducible refine' q_dc ?_ ?ce; (case ce => (with_unfolding_all conv => (lhs; whnf; (try dsimp only))))); (with_reducible refine q_code ?_); (repeat (first | (with_reducible refine q_bind ?_) | (with_reducible refine q_onRaise ?_) | (with_reducible refine q_keep ?_) | (with_reducible refine q_tryCatch ?_)))))
  (with_unfolding_all refine' q_loadL CK 39 ?e ?hc ?_; (case e => with_unfolding_all exact rfl); (case hc => with_unfolding_all exact rfl); (repeat (first | (with_reducible refine q_bind ?_) | (with_reducible refine q_onRaise ?_) | (with_reducible refine q_keep ?_) | (with_reducible refine q_tryCatch ?_))))
  (with_unfolding_all refine q_unb ?_; (repeat (first | (with_reducible refine q_bind ?_) | (with_reducible refine q_onRaise ?_) | (with_reducible refine q_keep ?_) | (with_reducible refine q_tryCatch ?_))))
  (with_unfolding_all refine' q_loadL CK 40 ?e ?hc ?_; (case e => with_unfolding_all exact rfl); (case hc => with_unfolding_all exact rfl); (repeat (first | (with_reducible refine q_bind ?_) | (with_reducible refine q_onRaise ?_) | (with_reducible refine q_keep ?_) | (with_reducible refine q_tryCatch ?_))))
  (with_unfolding_all refine q_unb ?_; (repeat (first | (with_reducible refine q_bind ?_) | (with_reducible refine q_onRaise ?_) | (with_reducible refine q_keep ?_) | (with_reducible refine q_tryCatch ?_))))
  (with_unfolding_all refine q_unb ?_; (repeat (first | (with_reducible refine q_bind ?_) | (with_reducible refine q_onRaise ?_) | (with_reducible refine q_keep ?_) | (with_reducible refine q_tryCatch ?_))))
  (with_unfolding_all refine q_unb ?_; (repeat (first | (with_reducible refine q_bind ?_) | (with_reducible refine q_onRaise ?_) | (with_reducible refine q_keep ?_) | (with_reducible refine q_tryCatch ?_))); (with_reducible refine' q_dq ?_ ?ne; (case ne => (with_unfolding_all conv => (lhs; whnf)))))
  (with_reducible refine' q_alloc had 0 ?eo ?el ?hf ?_; (case eo => (with_unfolding_all conv => (lhs; whnf; (try dsimp only)))); (case el => with_unfolding_all exact rfl); (case hf => with_unfolding_all exact rfl); (repeat (first | (with_reducible refine q_bind ?_) | (with_reducible refine q_onRaise ?_) | (with_reducible refine q_keep ?_) | (with_reducible refine q_tryCatch ?_))))
  (with_unfolding_all refine q_unb ?_; (repeat (first | (with_reducible refine q_bind ?_) | (with_reducible refine q_onRaise ?_) | (with_reducible refine q_keep ?_) | (with_reducible refine q_tryCatch ?_))))
  (with_unfolding_all refine q_ask ?_; (repeat (first | (with_reducible refine q_bind ?_) | (with_reducible refine q_onRaise ?_) | (with_reducible refine q_keep ?_) | (with_reducible refine q_tryCatch ?_))))
  (with_unfolding_all refine q_unb ?_; (repeat (first | (with_reducible refine q_bind ?_) | (with_reducible refine q_onRaise ?_) | (with_reducible refine q_keep ?_) | (with_reducible refine q_tryCatch ?_))))
  (with_unfolding_all refine q_unb ?_; (repeat (first | (with_reducible refine q_bind ?_) | (with_reducible refine q_onRaise ?_) | (with_reducible refine q_keep ?_) | (with_reducible refine q_tryCatch ?_))))
  (with_unfolding_all refine q_fresh ?_; (repeat (first | (with_reducible refine q_bind ?_) | (with_reducible refine q_onRaise ?_) | (with_reducible refine q_keep ?_) | (with_reducible refine q_tryCatch ?_))))
  (with_unfolding_all refine q_unb ?_; (repeat (first | (with_reducible refine q_bind ?_) | (with_reducible refine q_onRaise ?_) | (with_reducible refine q_keep ?_) | (with_reducible refine q_tryCatch ?_))))
  (with_unfolding_all refine q_unb ?_; (repeat (first | (with_reducible refine q_bind ?_) | (with_reducible refine q_onRaise ?_) | (with_reducible refine q_keep ?_) | (with_reducible refine q_tryCatch ?_))))
  (with_unfolding_all refine' q_loadI 0 ?e ?_; (case e => with_unfolding_all exact rfl); (repeat (first | (with_reducible refine q_bind ?_) | (with_reducible refine q_onRaise ?_) | (with_reducible refine q_keep ?_) | (with_reducible refine q_tryCatch ?_))))
  (with_unfolding_all refine q_unb ?_; (repeat (first | (with_reducible refine q_bind ?_) | (with_reducible refine q_onRaise ?_) | (with_reducible refine q_keep ?_) | (with_reducible refine q_tryCatch ?_))); (with_reducible refine' q_dq ?_ ?ne; (case ne => (with_unfolding_all conv => (lhs; whnf)))))
  ((with_reducible refine' q_dq ?_ ?ne; (case ne => (with_unfolding_all conv => (lhs; arg 1; whnf)))); with_reducible refine' q_upd 0 ?e ?ue ?uf ?hn ?_; (case e => with_unfolding_all exact rfl); (case ue => (with_reducible refine' obj_dict ?de ?dh ?dl; (case de => with_unfolding_all exact rfl); (case dh => with_unfolding_all exact rfl); (case dl => (repeat (first | (apply NL.nil; with_unfolding_all exact rfl) | (apply NL.cons; with_unfolding_all exact rfl; ((with_unfolding_all conv => (lhs; whnf; (try dsimp only))); try rfl))))))); (case uf => with_unfolding_all exact rfl); (case hn => (conv => (lhs; simp only [List.set]))); (repeat (first | (with_reducible refine q_bind ?_) | (with_reducible refine q_onRaise ?_) | (with_reducible refine q_keep ?_) | (with_reducible refine q_tryCatch ?_))))
  (with_unfolding_all refine q_unb ?_; (repeat (first | (with_reducible refine q_bind ?_) | (with_reducible refine q_onRaise ?_) | (with_reducible refine q_keep ?_) | (with_reducible refine q_tryCatch ?_))))
  (with_unfolding_all refine q_unb ?_; (repeat (first | (with_reducible refine q_bind ?_) | (with_reducible refine q_onRaise ?_) | (with_reducible refine q_keep ?_) | (with_reducible refine q_tryCatch ?_))))
  (with_unfolding_all refine q_ask ?_; (repeat (first | (with_reducible refine q_bind ?_) | (with_reducible refine q_onRaise ?_) | (with_reducible refine q_keep ?_) | (with_reducible refine q_tryCatch ?_))))
  (with_unfolding_all refine q_unb ?_; (repeat (first | (with_reducible refine q_bind ?_) | (with_reducible refine q_onRaise ?_) | (with_reducible refine q_keep ?_) | (with_reducible refine q_tryCatch ?_))))
  (with_unfolding_all refine q_unb ?_; (repeat (first | (with_reducible refine q_bind ?_) | (with_reducible refine q_onRaise ?_) | (with_reducible refine q_keep ?_) | (with_reducible refine q_tryCatch ?_))))
  (with_unfolding_all refine q_fresh ?_; (repeat (first | (with_reducible refine q_bind ?_) | (with_reducible refine q_onRaise ?_) | (with_reducible refine q_keep ?_) | (with_reducible refine q_tryCatch ?_))))
  (with_unfolding_all refine q_unb ?_; (repeat (first | (with_reducible refine q_bind ?_) | (with_reducible refine q_onRaise ?_) | (with_reducible refine q_keep ?_) | (with_reducible refine q_tryCatch ?_))))
  (with_unfolding_all refine q_unb ?_; (repeat (first | (with_reducible refine q_bind ?_) | (with_reducible refine q_onRaise ?_) | (with_reducible refine q_keep ?_) | (with_reducible refine q_tryCatch ?_))))
  (with_unfolding_all refine' q_loadI 0 ?e ?_; (case e => with_unfolding_all exact rfl); (repeat (first | (with_reducible refine q_bind ?_) | (with_reducible refine q_onRaise ?_) | (with_reducible refine q_keep ?_) | (with_reducible refine q_tryCatch ?_))))
  (with_unfolding_all refine q_unb ?_; (repeat (first | (with_reducible refine q_bind ?_) | (with_reducible refine q_onRaise ?_) | (with_reducible refine q_keep ?_) | (with_reducible refine q_tryCatch ?_))); (with_reducible refine' q_dq ?_ ?ne; (case ne => (with_unfolding_all conv => (lhs; whnf)))))
  ((with_reducible refine' q_dq ?_ ?ne; (case ne => (with_unfolding_all conv => (lhs; arg 1; whnf)))); with_reducible refine' q_upd 0 ?e ?ue ?uf ?hn ?_; (case e => with_unfolding_all exact rfl); (case ue => (with_reducible refine' obj_dict ?de ?dh ?dl; (case de => with_unfolding_all exact rfl); (case dh => with_unfolding_all exact rfl); (case dl => (repeat (first | (apply NL.nil; with_unfolding_all exact rfl) | (apply NL.cons; with_unfolding_all exact rfl; ((with_unfolding_all conv => (lhs; whnf; (try dsimp only))); try rfl))))))); (case uf => with_unfolding_all exact rfl); (case hn => (conv => (lhs; simp only [List.set]))); (repeat (first | (with_reducible refine q_bind ?_) | (with_reducible refine q_onRaise ?_) | (with_reducible refine q_keep ?_) | (with_reducible refine q_tryCatch ?_))))
  (with_unfolding_all refine q_unb ?_; (repeat (first | (with_reducible refine q_bind ?_) | (with_reducible refine q_onRaise ?_) | (with_reducible refine q_keep ?_) | (with_reducible refine q_tryCatch ?_))))
  (with_unfolding_all refine q_unb ?_; (repeat (first | (with_reducible refine q_bind ?_) | (with_reducible refine q_onRaise ?_) | (with_reducible refine q_keep ?_) | (with_reducible refine q_tryCatch ?_))))
  (with_unfolding_all refine q_unb ?_; (repeat (first | (with_reducible refine q_bind ?_) | (with_reducible refine q_onRaise ?_) | (with_reducible refine q_keep ?_) | (with_reducible refine q_tryCatch ?_))))
  (with_unfolding_all refine q_unb ?_; (repeat (first | (with_reducible refine q_bind ?_) | (with_reducible refine q_onRaise ?_) | (with_reducible refine q_keep ?_) | (with_reducible refine q_tryCatch ?_))); (with_reducible refine' q_dq ?_ ?ne; (case ne => (with_unfolding_all conv => (lhs; whnf)))))
  (with_reducible refine q_stack ?_; intro p l; (repeat (first | (with_reducible refine q_bind ?_) | (with_reducible refine q_onRaise ?_) | (with_reducible refine q_keep ?_) | (with_reducible refine q_tryCatch ?_))))
  (with_unfolding_all refine q_unb ?_; (repeat (first | (with_reducible refine q_bind ?_) | (with_reducible refine q_onRaise ?_) | (with_reducible refine q_keep ?_) | (with_reducible refine q_tryCatch ?_))))
  (with_unfolding_all refine' q_loadK KX ?e ?hc ?_; (case e => with_unfolding_all exact rfl); (case hc => with_unfolding_all exact rfl); (repeat (first | (with_reducible refine q_bind ?_) | (with_reducible refine q_onRaise ?_) | (with_reducible refine q_keep ?_) | (with_reducible refine q_tryCatch ?_))))
  (with_unfolding_all refine q_unb ?_; (repeat (first | (with_reducible refine q_bind ?_) | (with_reducible refine q_onRaise ?_) | (with_reducible refine q_keep ?_) | (with_reducible refine q_tryCatch ?_))))
  (with_unfolding_all refine q_unb ?_; (repeat (first | (with_reducible refine q_bind ?_) | (with_reducible refine q_onRaise ?_) | (with_reducible refine q_keep ?_) | (with_reducible refine q_tryCatch ?_))))
  (with_unfolding_all refine q_unb ?_; (repeat (first | (with_reducible refine q_bind ?_) | (with_reducible refine q_onRaise ?_) | (with_reducible refine q_keep ?_) | (with_reducible refine q_tryCatch ?_))); (with_reducible refine' q_dq ?_ ?ne; (case ne => (with_unfolding_all conv => (lhs; whnf)))))
  (with_reducible refine' q_dq ?_ ?ne; (case ne => (rw [near_f l (by refine dep0 ?_; (repeat (first | (with_reducible refine dep_mark ?_) | (with_reducible refine dep_under ?hw ?_; (case hw => kernel_rfl!)))); omega)])); (repeat (first | (with_reducible refine q_bind ?_) | (with_reducible refine q_onRaise ?_) | (with_reducible refine q_keep ?_) | (with_reducible refine q_tryCatch ?_))); (with_reducible refine' q_dq ?_ ?ne; (case ne => (with_unfolding_all conv => (lhs; whnf)))))
  (with_reducible refine' q_dq ?_ ?ne; (case ne => (rw [over_f l (by refine dep0 ?_; (repeat (first | (with_reducible refine dep_mark ?_) | (with_reducible refine dep_under ?hw ?_; (case hw => kernel_rfl!)))); omega)])); (repeat (first | (with_reducible refine q_bind ?_) | (with_reducible refine q_onRaise ?_) | (with_reducible refine q_keep ?_) | (with_reducible refine q_tryCatch ?_))); (with_reducible refine' q_dq ?_ ?ne; (case ne => (with_unfolding_all conv => (lhs; whnf)))))
  (with_reducible refine' q_dq ?_ ?ne; (case ne => (rw [warm_f l (by refine dep0 ?_; (repeat (first | (with_reducible refine dep_mark ?_) | (with_reducible refine dep_under ?hw ?_; (case hw => kernel_rfl!)))); omega)])); (repeat (first | (with_reducible refine q_bind ?_) | (with_reducible refine q_onRaise ?_) | (with_reducible refine q_keep ?_) | (with_reducible refine q_tryCatch ?_))))
  (with_unfolding_all refine q_unb ?_; (repeat (first | (with_reducible refine q_bind ?_) | (with_reducible refine q_onRaise ?_) | (with_reducible refine q_keep ?_) | (with_reducible refine q_tryCatch ?_))))
  (with_unfolding_all refine q_pure ?_)
  (with_reducible refine q_again (by kernel_rfl!) ?_; ((with_reducible refine' q_dc ?_ ?ce; (case ce => (with_unfolding_all conv => (lhs; whnf; (try dsimp only))))); (with_reducible refine q_code ?_); (repeat (first | (with_reducible refine q_bind ?_) | (with_reducible refine q_onRaise ?_) | (with_reducible refine q_keep ?_) | (with_reducible refine q_tryCatch ?_)))))
  (with_unfolding_all refine q_point ?_; (repeat (first | (with_reducible refine q_bind ?_) | (with_reducible refine q_onRaise ?_) | (with_reducible refine q_keep ?_) | (with_reducible refine q_tryCatch ?_))))
  (with_unfolding_all refine q_unb ?_; (repeat (first | (with_reducible refine q_bind ?_) | (with_reducible refine q_onRaise ?_) | (with_reducible refine q_keep ?_) | (with_reducible refine q_tryCatch ?_))))
  (with_unfolding_all refine q_at ?_; (repeat (first | (with_reducible refine q_bind ?_) | (with_reducible refine q_onRaise ?_) | (with_reducible refine q_keep ?_) | (with_reducible refine q_tryCatch ?_))))
  (with_unfolding_all refine q_unb ?_; (repeat (first | (with_reducible refine q_bind ?_) | (with_reducible refine q_onRaise ?_) | (with_reducible refine q_keep ?_) | (with_reducible refine q_tryCatch ?_))))
  (with_unfolding_all refine q_at ?_; (repeat (first | (with_reducible refine q_bind ?_) | (with_reducible refine q_onRaise ?_) | (with_reducible refine q_keep ?_) | (with_reducible refine q_tryCatch ?_))))
  (with_unfolding_all refine q_unb ?_; (repeat (first | (with_reducible refine q_bind ?_) | (with_reducible refine q_onRaise ?_) | (with_reducible refine q_keep ?_) | (with_reducible refine q_tryCatch ?_))))
  (with_unfolding_all refine' q_loadL CK 62 ?e ?hc ?_; (case e => with_unfolding_all exact rfl); (case hc => with_unfolding_all exact rfl); (repeat (first | (with_reducible refine q_bind ?_) | (with_reducible refine q_onRaise ?_) | (with_reducible refine q_keep ?_) | (with_reducible refine q_tryCatch ?_))))
  (with_unfolding_all refine q_unb ?_; (repeat (first | (with_reducible refine q_bind ?_) | (with_reducible refine q_onRaise ?_) | (with_reducible refine q_keep ?_) | (with_reducible refine q_tryCatch ?_))))
  (with_unfolding_all refine q_unb ?_; (repeat (first | (with_reducible refine q_bind ?_) | (with_reducible refine q_onRaise ?_) | (with_reducible refine q_keep ?_) | (with_reducible refine q_tryCatch ?_))))
  (with_unfolding_all refine q_unb ?_; (repeat (first | (with_reducible refine q_bind ?_) | (with_reducible refine q_onRaise ?_) | (with_reducible refine q_keep ?_) | (with_reducible refine q_tryCatch ?_))))
  (with_unfolding_all refine q_at ?_; (repeat (first | (with_reducible refine q_bind ?_) | (with_reducible refine q_onRaise ?_) | (with_reducible refine q_keep ?_) | (with_reducible refine q_tryCatch ?_))))
  (with_unfolding_all refine q_unb ?_; (repeat (first | (with_reducible refine q_bind ?_) | (with_reducible refine q_onRaise ?_) | (with_reducible refine q_keep ?_) | (with_reducible refine q_tryCatch ?_))))
  (with_unfolding_all refine' q_loadI 0 ?e ?_; (case e => with_unfolding_all exact rfl); (repeat (first | (with_reducible refine q_bind ?_) | (with_reducible refine q_onRaise ?_) | (with_reducible refine q_keep ?_) | (with_reducible refine q_tryCatch ?_))))
  (with_unfolding_all refine q_unb ?_; (repeat (first | (with_reducible refine q_bind ?_) | (with_reducible refine q_onRaise ?_) | (with_reducible refine q_keep ?_) | (with_reducible refine q_tryCatch ?_))))
  (with_unfolding_all refine q_unb ?_; (repeat (first | (with_reducible refine q_bind ?_) | (with_reducible refine q_onRaise ?_) | (with_reducible refine q_keep ?_) | (with_reducible refine q_tryCatch ?_))))
  (with_unfolding_all refine q_unb ?_; (repeat (first | (with_reducible refine q_bind ?_) | (with_reducible refine q_onRaise ?_) | (with_reducible refine q_keep ?_) | (with_reducible refine q_tryCatch ?_))))
  (with_unfolding_all refine q_at ?_; (repeat (first | (with_reducible refine q_bind ?_) | (with_reducible refine q_onRaise ?_) | (with_reducible refine q_keep ?_) | (with_reducible refine q_tryCatch ?_))))
  (with_unfolding_all refine q_unb ?_; (repeat (first | (with_reducible refine q_bind ?_) | (with_reducible refine q_onRaise ?_) | (with_reducible refine q_keep ?_) | (with_reducible refine q_tryCatch ?_))))
  (with_unfolding_all refine q_fresh ?_; (repeat (first | (with_reducible refine q_bind ?_) | (with_reducible refine q_onRaise ?_) | (with_reducible refine q_keep ?_) | (with_reducible refine q_tryCatch ?_))))
  (with_unfolding_all refine q_unb ?_; (repeat (first | (with_reducible refine q_bind ?_) | (with_reducible refine q_onRaise ?_) | (with_reducible refine q_keep ?_) | (with_reducible refine q_tryCatch ?_))))
  (with_unfolding_all refine q_unb ?_; (repeat (first | (with_reducible refine q_bind ?_) | (with_reducible refine q_onRaise ?_) | (with_reducible refine q_keep ?_) | (with_reducible refine q_tryCatch ?_))))
  (with_unfolding_all refine q_loadH hi (by first | exact rfl | exact or_r rfl) ?_; (repeat (first | (with_reducible refine q_bind ?_) | (with_reducible refine q_onRaise ?_) | (with_reducible refine q_keep ?_) | (with_reducible refine q_tryCatch ?_))))
  (with_unfolding_all refine q_unb ?_; (repeat (first | (with_reducible refine q_bind ?_) | (with_reducible refine q_onRaise ?_) | (with_reducible refine q_keep ?_) | (with_reducible refine q_tryCatch ?_))))
  (with_unfolding_all refine q_unb ?_; (repeat (first | (with_reducible refine q_bind ?_) | (with_reducible refine q_onRaise ?_) | (with_reducible refine q_keep ?_) | (with_reducible refine q_tryCatch ?_))))
  (with_unfolding_all refine' q_loadL CK 3 ?e ?hc ?_; (case e => with_unfolding_all exact rfl); (case hc => with_unfolding_all exact rfl); (repeat (first | (with_reducible refine q_bind ?_) | (with_reducible refine q_onRaise ?_) | (with_reducible refine q_keep ?_) | (with_reducible refine q_tryCatch ?_))))
  (with_unfolding_all refine q_unb ?_; (repeat (first | (with_reducible refine q_bind ?_) | (with_reducible refine q_onRaise ?_) | (with_reducible refine q_keep ?_) | (with_reducible refine q_tryCatch ?_))))
  (with_unfolding_all refine q_unb ?_; (repeat (first | (with_reducible refine q_bind ?_) | (with_reducible refine q_onRaise ?_) | (with_reducible refine q_keep ?_) | (with_reducible refine q_tryCatch ?_))))
  (with_unfolding_all refine q_unb ?_; (repeat (first | (with_reducible refine q_bind ?_) | (with_reducible refine q_onRaise ?_) | (with_reducible refine q_keep ?_) | (with_reducible refine q_tryCatch ?_))))
  (with_unfolding_all refine' q_loadL CK 3 ?e ?hc ?_; (case e => with_unfolding_all exact rfl); (case hc => with_unfolding_all exact rfl); (repeat (first | (with_reducible refine q_bind ?_) | (with_reducible refine q_onRaise ?_) | (with_reducible refine q_keep ?_) | (with_reducible refine q_tryCatch ?_))))
  (with_unfolding_all refine q_unb ?_; (repeat (first | (with_reducible refine q_bind ?_) | (with_reducible refine q_onRaise ?_) | (with_reducible refine q_keep ?_) | (with_reducible refine q_tryCatch ?_))))
  (with_unfolding_all refine q_unb ?_; (repeat (first | (with_reducible refine q_bind ?_) | (with_reducible refine q_onRaise ?_) | (with_reducible refine q_keep ?_) | (with_reducible refine q_tryCatch ?_))))
  (with_unfolding_all refine' q_loadL CK 4 ?e ?hc ?_; (case e => with_unfolding_all exact rfl); (case hc => with_unfolding_all exact rfl); (repeat (first | (with_reducible refine q_bind ?_) | (with_reducible refine q_onRaise ?_) | (with_reducible refine q_keep ?_) | (with_reducible refine q_tryCatch ?_))))
  (with_unfolding_all refine q_unb ?_; (repeat (first | (with_reducible refine q_bind ?_) | (with_reducible refine q_onRaise ?_) | (with_reducible refine q_keep ?_) | (with_reducible refine q_tryCatch ?_))))
  (with_unfolding_all refine q_unb ?_; (repeat (first | (with_reducible refine q_bind ?_) | (with_reducible refine q_onRaise ?_) | (with_reducible refine q_keep ?_) | (with_reducible refine q_tryCatch ?_))))
  (with_unfolding_all refine q_unb ?_; (repeat (first | (with_reducible refine q_bind ?_) | (with_reducible refine q_onRaise ?_) | (with_reducible refine q_keep ?_) | (with_reducible refine q_tryCatch ?_))))
  (with_unfolding_all refine q_unb ?_; (repeat (first | (with_reducible refine q_bind ?_) | (with_reducible refine q_onRaise ?_) | (with_reducible refine q_keep ?_) | (with_reducible refine q_tryCatch ?_))))
  (with_unfolding_all refine q_unb ?_; (repeat (first | (with_reducible refine q_bind ?_) | (with_reducible refine q_onRaise ?_) | (with_reducible refine q_keep ?_) | (with_reducible refine q_tryCatch ?_))); (with_reducible refine' q_dq ?_ ?ne; (case ne => (with_unfolding_all conv => (lhs; whnf)))))
  (with_reducible refine q_call (Option.some_ne_none _).symm ?_; ((with_reducible refine' q_dc ?_ ?ce; (case ce => (with_unfolding_all conv => (lhs; whnf; (try dsimp only))))); (with_reducible refine q_code ?_); (repeat (first | (with_reducible refine q_bind ?_) | (with_reducible refine q_onRaise ?_) | (with_reducible refine q_keep ?_) | (with_reducible refine q_tryCatch ?_)))))
  (with_unfolding_all refine q_loadH hi (by first | exact rfl | exact or_r rfl) ?_; (repeat (first | (with_reducible refine q_bind ?_) | (with_reducible refine q_onRaise ?_) | (with_reducible refine q_keep ?_) | (with_reducible refine q_tryCatch ?_))))
  (with_unfolding_all refine q_unb ?_; (repeat (first | (with_reducible refine q_bind ?_) | (with_reducible refine q_onRaise ?_) | (with_reducible refine q_keep ?_) | (with_reducible refine q_tryCatch ?_))))
  (with_unfolding_all refine q_unb ?_; (repeat (first | (with_reducible refine q_bind ?_) | (with_reducible refine q_onRaise ?_) | (with_reducible refine q_keep ?_) | (with_reducible refine q_tryCatch ?_))))
  (with_unfolding_all refine' q_loadL CK 3 ?e ?hc ?_; (case e => with_unfolding_all exact rfl); (case hc => with_unfolding_all exact rfl); (repeat (first | (with_reducible refine q_bind ?_) | (with_reducible refine q_onRaise ?_) | (with_reducible refine q_keep ?_) | (with_reducible refine q_tryCatch ?_))))
  (with_unfolding_all refine q_unb ?_; (repeat (first | (with_reducible refine q_bind ?_) | (with_reducible refine q_onRaise ?_) | (with_reducible refine q_keep ?_) | (with_reducible refine q_tryCatch ?_))))
  (with_unfolding_all refine q_unb ?_; (repeat (first | (with_reducible refine q_bind ?_) | (with_reducible refine q_onRaise ?_) | (with_reducible refine q_keep ?_) | (with_reducible refine q_tryCatch ?_))))
  (with_unfolding_all refine q_unb ?_; (repeat (first | (with_reducible refine q_bind ?_) | (with_reducible refine q_onRaise ?_) | (with_reducible refine q_keep ?_) | (with_reducible refine q_tryCatch ?_))))
  (with_unfolding_all refine' q_loadL CK 3 ?e ?hc ?_; (case e => with_unfolding_all exact rfl); (case hc => with_unfolding_all exact rfl); (repeat (first | (with_reducible refine q_bind ?_) | (with_reducible refine q_onRaise ?_) | (with_reducible refine q_keep ?_) | (with_reducible refine q_tryCatch ?_))))
  (with_unfolding_all refine q_unb ?_; (repeat (first | (with_reducible refine q_bind ?_) | (with_reducible refine q_onRaise ?_) | (with_reducible refine q_keep ?_) | (with_reducible refine q_tryCatch ?_))))
  (with_unfolding_all refine q_unb ?_; (repeat (first | (with_reducible refine q_bind ?_) | (with_reducible refine q_onRaise ?_) | (with_reducible refine q_keep ?_) | (with_reducible refine q_tryCatch ?_))))
  (with_unfolding_all refine' q_loadL CK 4 ?e ?hc ?_; (case e => with_unfolding_all exact rfl); (case hc => with_unfolding_all exact rfl); (repeat (first | (with_reducible refine q_bind ?_) | (with_reducible refine q_onRaise ?_) | (with_reducible refine q_keep ?_) | (with_reducible refine q_tryCatch ?_))))
  (with_unfolding_all refine q_unb ?_; (repeat (first | (with_reducible refine q_bind ?_) | (with_reducible refine q_onRaise ?_) | (with_reducible refine q_keep ?_) | (with_reducible refine q_tryCatch ?_))))
  (with_unfolding_all refine q_unb ?_; (repeat (first | (with_reducible refine q_bind ?_) | (with_reducible refine q_onRaise ?_) | (with_reducible refine q_keep ?_) | (with_reducible refine q_tryCatch ?_))))
  (with_unfolding_all refine q_unb ?_; (repeat (first | (with_reducible refine q_bind ?_) | (with_reducible refine q_onRaise ?_) | (with_reducible refine q_keep ?_) | (with_reducible refine q_tryCatch ?_))))
  (with_unfolding_all refine q_unb ?_; (repeat (first | (with_reducible refine q_bind ?_) | (with_reducible refine q_onRaise ?_) | (with_reducible refine q_keep ?_) | (with_reducible refine q_tryCatch ?_))))
  (with_unfolding_all refine q_unb ?_; (repeat (first | (with_reducible refine q_bind ?_) | (with_reducible refine q_onRaise ?_) | (with_reducible refine q_keep ?_) | (with_reducible refine q_tryCatch ?_))))
  (with_unfolding_all refine' q_loadL CK 2 ?e ?hc ?_; (case e => with_unfolding_all exact rfl); (case hc => with_unfolding_all exact rfl); (repeat (first | (with_reducible refine q_bind ?_) | (with_reducible refine q_onRaise ?_) | (with_reducible refine q_keep ?_) | (with_reducible refine q_tryCatch ?_))))
  (with_unfolding_all refine q_unb ?_; (repeat (first | (with_reducible refine q_bind ?_) | (with_reducible refine q_onRaise ?_) | (with_reducible refine q_keep ?_) | (with_reducible refine q_tryCatch ?_))))
  (with_unfolding_all refine q_unb ?_; (repeat (first | (with_reducible refine q_bind ?_) | (with_reducible refine q_onRaise ?_) | (with_reducible refine q_keep ?_) | (with_reducible refine q_tryCatch ?_))))
  (with_unfolding_all refine q_unb ?_; (repeat (first | (with_reducible refine q_bind ?_) | (with_reducible refine q_onRaise ?_) | (with_reducible refine q_keep ?_) | (with_reducible refine q_tryCatch ?_))))
  (with_unfolding_all refine' q_loadL CK 2 ?e ?hc ?_; (case e => with_unfolding_all exact rfl); (case hc => with_unfolding_all exact rfl); (repeat (first | (with_reducible refine q_bind ?_) | (with_reducible refine q_onRaise ?_) | (with_reducible refine q_keep ?_) | (with_reducible refine q_tryCatch ?_))))
  (with_unfolding_all refine q_unb ?_; (repeat (first | (with_reducible refine q_bind ?_) | (with_reducible refine q_onRaise ?_) | (with_reducible refine q_keep ?_) | (with_reducible refine q_tryCatch ?_))))
  (with_unfolding_all refine q_unb ?_; (repeat (first | (with_reducible refine q_bind ?_) | (with_reducible refine q_onRaise ?_) | (with_reducible refine q_keep ?_) | (with_reducible refine q_tryCatch ?_))))
  (with_unfolding_all refine q_unb ?_; (repeat (first | (with_reducible refine q_bind ?_) | (with_reducible refine q_onRaise ?_) | (with_reducible refine q_keep ?_) | (with_reducible refine q_tryCatch ?_))))
  (with_unfolding_all refine q_unb ?_; (repeat (first | (with_reducible refine q_bind ?_) | (with_reducible refine q_onRaise ?_) | (with_reducible refine q_keep ?_) | (with_reducible refine q_tryCatch ?_))))
  (with_unfolding_all refine q_unb ?_; (repeat (first | (with_reducible refine q_bind ?_) | (with_reducible refine q_onRaise ?_) | (with_reducible refine q_keep ?_) | (with_reducible refine q_tryCatch ?_))))
  (with_unfolding_all refine q_rule ?_; (repeat (first | (with_reducible refine q_bind ?_) | (with_reducible refine q_onRaise ?_) | (with_reducible refine q_keep ?_) | (with_reducible refine q_tryCatch ?_))))
  (with_unfolding_all refine q_unb ?_; (repeat (first | (with_reducible refine q_bind ?_) | (with_reducible refine q_onRaise ?_) | (with_reducible refine q_keep ?_) | (with_reducible refine q_tryCatch ?_))))
  (with_unfolding_all refine q_unb ?_; (repeat (first | (with_reducible refine q_bind ?_) | (with_reducible refine q_onRaise ?_) | (with_reducible refine q_keep ?_) | (with_reducible refine q_tryCatch ?_))))
  (with_unfolding_all refine' q_loadL CK 3 ?e ?hc ?_; (case e => with_unfolding_all exact rfl); (case hc => with_unfolding_all exact rfl); (repeat (first | (with_reducible refine q_bind ?_) | (with_reducible refine q_onRaise ?_) | (with_reducible refine q_keep ?_) | (with_reducible refine q_tryCatch ?_))))
  (with_unfolding_all refine q_unb ?_; (repeat (first | (with_reducible refine q_bind ?_) | (with_reducible refine q_onRaise ?_) | (with_reducible refine q_keep ?_) | (with_reducible refine q_tryCatch ?_))))
  (with_unfolding_all refine q_unb ?_; (repeat (first | (with_reducible refine q_bind ?_) | (with_reducible refine q_onRaise ?_) | (with_reducible refine q_keep ?_) | (with_reducible refine q_tryCatch ?_))))
  (with_unfolding_all refine q_unb ?_; (repeat (first | (with_reducible refine q_bind ?_) | (with_reducible refine q_onRaise ?_) | (with_reducible refine q_keep ?_) | (with_reducible refine q_tryCatch ?_))))
  (with_unfolding_all refine' q_loadL CK 3 ?e ?hc ?_; (case e => with_unfolding_all exact rfl); (case hc => with_unfolding_all exact rfl); (repeat (first | (with_reducible refine q_bind ?_) | (with_reducible refine q_onRaise ?_) | (with_reducible refine q_keep ?_) | (with_reducible refine q_tryCatch ?_))))
  (with_unfolding_all refine q_unb ?_; (repeat (first | (with_reducible refine q_bind ?_) | (with_reducible refine q_onRaise ?_) | (with_reducible refine q_keep ?_) | (with_reducible refine q_tryCatch ?_))))
  (with_unfolding_all refine q_unb ?_; (repeat (first | (with_reducible refine q_bind ?_) | (with_reducible refine q_onRaise ?_) | (with_reducible refine q_keep ?_) | (with_reducible refine q_tryCatch ?_))))
  (with_unfolding_all refine' q_loadL CK 4 ?e ?hc ?_; (case e => with_unfolding_all exact rfl); (case hc => with_unfolding_all exact rfl); (repeat (first | (with_reducible refine q_bind ?_) | (with_reducible refine q_onRaise ?_) | (with_reducible refine q_keep ?_) | (with_reducible refine q_tryCatch ?_))))
  (with_unfolding_all refine q_unb ?_; (repeat (first | (with_reducible refine q_bind ?_) | (with_reducible refine q_onRaise ?_) | (with_reducible refine q_keep ?_) | (with_reducible refine q_tryCatch ?_))))
  (with_unfolding_all refine q_unb ?_; (repeat (first | (with_reducible refine q_bind ?_) | (with_reducible refine q_onRaise ?_) | (with_reducible refine q_keep ?_) | (with_reducible refine q_tryCatch ?_))))
  (with_unfolding_all refine q_unb ?_; (repeat (first | (with_reducible refine q_bind ?_) | (with_reducible refine q_onRaise ?_) | (with_reducible refine q_keep ?_) | (with_reducible refine q_tryCatch ?_))))
  (with_unfolding_all refine q_unb ?_; (repeat (first | (with_reducible refine q_bind ?_) | (with_reducible refine q_onRaise ?_) | (with_reducible refine q_keep ?_) | (with_reducible refine q_tryCatch ?_))))
  (with_unfolding_all refine q_unb ?_; (repeat (first | (with_reducible refine q_bind ?_) | (with_reducible refine q_onRaise ?_) | (with_reducible refine q_keep ?_) | (with_reducible refine q_tryCatch ?_))); (with_reducible refine' q_dq ?_ ?ne; (case ne => (with_unfolding_all conv => (lhs; whnf)))))
  (with_reducible refine q_call (Option.some_ne_none _).symm ?_; ((with_reducible refine' q_dc ?_ ?ce; (case ce => (with_unfolding_all conv => (lhs; whnf; (try dsimp only))))); (with_reducible refine q_code ?_); (repeat (first | (with_reducible refine q_bind ?_) | (with_reducible refine q_onRaise ?_) | (with_reducible refine q_keep ?_) | (with_reducible refine q_tryCatch ?_)))))
  (with_unfolding_all refine' q_loadL CK 2 ?e ?hc ?_; (case e => with_unfolding_all exact rfl); (case hc => with_unfolding_all exact rfl); (repeat (first | (with_reducible refine q_bind ?_) | (with_reducible refine q_onRaise ?_) | (with_reducible refine q_keep ?_) | (with_reducible refine q_tryCatch ?_))))
  (with_unfolding_all refine q_unb ?_; (repeat (first | (with_reducible refine q_bind ?_) | (with_reducible refine q_onRaise ?_) | (with_reducible refine q_keep ?_) | (with_reducible refine q_tryCatch ?_))))
  (with_unfolding_all refine q_unb ?_; (repeat (first | (with_reducible refine q_bind ?_) | (with_reducible refine q_onRaise ?_) | (with_reducible refine q_keep ?_) | (with_reducible refine q_tryCatch ?_))))
  (with_unfolding_all refine q_unb ?_; (repeat (first | (with_reducible refine q_bind ?_) | (with_reducible refine q_onRaise ?_) | (with_reducible refine q_keep ?_) | (with_reducible refine q_tryCatch ?_))))
  (with_unfolding_all refine q_unb ?_; (repeat (first | (with_reducible refine q_bind ?_) | (with_reducible refine q_onRaise ?_) | (with_reducible refine q_keep ?_) | (with_reducible refine q_tryCatch ?_))))
  (with_unfolding_all refine q_pure ?_)
  (with_reducible refine q_again (by kernel_rfl!) ?_; ((with_reducible refine' q_dc ?_ ?ce; (case ce => (with_unfolding_all conv => (lhs; whnf; (try dsimp only))))); (with_reducible refine q_code ?_); (repeat (first | (with_reducible refine q_bind ?_) | (with_reducible refine q_onRaise ?_) | (with_reducible refine q_keep ?_) | (with_reducible refine q_tryCatch ?_)))))
  (with_unfolding_all refine' q_loadL CK 2 ?e ?hc ?_; (case e => with_unfolding_all exact rfl); (case hc => with_unfolding_all exact rfl); (repeat (first | (with_reducible refine q_bind ?_) | (with_reducible refine q_onRaise ?_) | (with_reducible refine q_keep ?_) | (with_reducible refine q_tryCatch ?_))))
  (with_unfolding_all refine q_unb ?_; (repeat (first | (with_reducible refine q_bind ?_) | (with_reducible refine q_onRaise ?_) | (with_reducible refine q_keep ?_) | (with_reducible refine q_tryCatch ?_))))
  (with_unfolding_all refine q_unb ?_; (repeat (first | (with_reducible refine q_bind ?_) | (with_reducible refine q_onRaise ?_) | (with_reducible refine q_keep ?_) | (with_reducible refine q_tryCatch ?_))))
  (with_unfolding_all refine q_unb ?_; (repeat (first | (with_reducible refine q_bind ?_) | (with_reducible refine q_onRaise ?_) | (with_reducible refine q_keep ?_) | (with_reducible refine q_tryCatch ?_))))
  (with_unfolding_all refine' q_loadL CK 2 ?e ?hc ?_; (case e => with_unfolding_all exact rfl); (case hc => with_unfolding_all exact rfl); (repeat (first | (with_reducible refine q_bind ?_) | (with_reducible refine q_onRaise ?_) | (with_reducible refine q_keep ?_) | (with_reducible refine q_tryCatch ?_))))
  (with_unfolding_all refine q_unb ?_; (repeat (first | (with_reducible refine q_bind ?_) | (with_reducible refine q_onRaise ?_) | (with_reducible refine q_keep ?_) | (with_reducible refine q_tryCatch ?_))))
  (with_unfolding_all refine q_unb ?_; (repeat (first | (with_reducible refine q_bind ?_) | (with_reducible refine q_onRaise ?_) | (with_reducible refine q_keep ?_) | (with_reducible refine q_tryCatch ?_))))
  (with_unfolding_all refine q_unb ?_; (repeat (first | (with_reducible refine q_bind ?_) | (with_reducible refine q_onRaise ?_) | (with_reducible refine q_keep ?_) | (with_reducible refine q_tryCatch ?_))))
  (with_unfolding_all refine q_unb ?_; (repeat (first | (with_reducible refine q_bind ?_) | (with_reducible refine q_onRaise ?_) | (with_reducible refine q_keep ?_) | (with_reducible refine q_tryCatch ?_))))
  (with_unfolding_all refine q_loadH hi (by first | exact rfl | exact or_r rfl) ?_; (repeat (first | (with_reducible refine q_bind ?_) | (with_reducible refine q_onRaise ?_) | (with_reducible refine q_keep ?_) | (with_reducible refine q_tryCatch ?_))))
  (with_unfolding_all refine q_unb ?_; (repeat (first | (with_reducible refine q_bind ?_) | (with_reducible refine q_onRaise ?_) | (with_reducible refine q_keep ?_) | (with_reducible refine q_tryCatch ?_))))
  (with_unfolding_all refine q_unb ?_; (repeat (first | (with_reducible refine q_bind ?_) | (with_reducible refine q_onRaise ?_) | (with_reducible refine q_keep ?_) | (with_reducible refine q_tryCatch ?_))))
  (with_unfolding_all refine' q_loadL CK 3 ?e ?hc ?_; (case e => with_unfolding_all exact rfl); (case hc => with_unfolding_all exact rfl); (repeat (first | (with_reducible refine q_bind ?_) | (with_reducible refine q_onRaise ?_) | (with_reducible refine q_keep ?_) | (with_reducible refine q_tryCatch ?_))))
  (with_unfolding_all refine q_unb ?_; (repeat (first | (with_reducible refine q_bind ?_) | (with_reducible refine q_onRaise ?_) | (with_reducible refine q_keep ?_) | (with_reducible refine q_tryCatch ?_))))
  (with_unfolding_all refine q_unb ?_; (repeat (first | (with_reducible refine q_bind ?_) | (with_reducible refine q_onRaise ?_) | (with_reducible refine q_keep ?_) | (with_reducible refine q_tryCatch ?_))))
  (with_unfolding_all refine q_unb ?_; (repeat (first | (with_reducible refine q_bind ?_) | (with_reducible refine q_onRaise ?_) | (with_reducible refine q_keep ?_) | (with_reducible refine q_tryCatch ?_))))
  (with_unfolding_all refine q_unb ?_; (repeat (first | (with_reducible refine q_bind ?_) | (with_reducible refine q_onRaise ?_) | (with_reducible refine q_keep ?_) | (with_reducible refine q_tryCatch ?_))); (with_reducible refine' q_dq ?_ ?ne; (case ne => (with_unfolding_all conv => (lhs; whnf)))))
  (with_reducible refine q_boolF ?bh ?_; (case bh => (first | kernel_rfl! | (apply not_t; with_unfolding_all exact contains_self) | (with_unfolding_all exact bneV_self) | (with_unfolding_all refine beqV_int ?bi; (case bi => omega)) | (with_unfolding_all refine beqI_no ?bi; (case bi => omega)) | (with_unfolding_all refine ltI_no ?bi; (case bi => omega)) | (apply and_l; kernel_rfl!) | (apply and_r; kernel_rfl!))); (repeat (first | (with_reducible refine q_bind ?_) | (with_reducible refine q_onRaise ?_) | (with_reducible refine q_keep ?_) | (with_reducible refine q_tryCatch ?_))))
  (with_unfolding_all refine q_unb ?_; (repeat (first | (with_reducible refine q_bind ?_) | (with_reducible refine q_onRaise ?_) | (with_reducible refine q_keep ?_) | (with_reducible refine q_tryCatch ?_))))
  (with_unfolding_all refine' q_loadL CK 2 ?e ?hc ?_; (case e => with_unfolding_all exact rfl); (case hc => with_unfolding_all exact rfl); (repeat (first | (with_reducible refine q_bind ?_) | (with_reducible refine q_onRaise ?_) | (with_reducible refine q_keep ?_) | (with_reducible refine q_tryCatch ?_))))
  (with_unfolding_all refine q_unb ?_; (repeat (first | (with_reducible refine q_bind ?_) | (with_reducible refine q_onRaise ?_) | (with_reducible refine q_keep ?_) | (with_reducible refine q_tryCatch ?_))))
  (with_unfolding_all refine q_unb ?_; (repeat (first | (with_reducible refine q_bind ?_) | (with_reducible refine q_onRaise ?_) | (with_reducible refine q_keep ?_) | (with_reducible refine q_tryCatch ?_))))
  (with_unfolding_all refine q_unb ?_; (repeat (first | (with_reducible refine q_bind ?_) | (with_reducible refine q_onRaise ?_) | (with_reducible refine q_keep ?_) | (with_reducible refine q_tryCatch ?_))))
  (with_unfolding_all refine q_rule ?_; (repeat (first | (with_reducible refine q_bind ?_) | (with_reducible refine q_onRaise ?_) | (with_reducible refine q_keep ?_) | (with_reducible refine q_tryCatch ?_))))
  (with_unfolding_all refine q_unb ?_; (repeat (first | (with_reducible refine q_bind ?_) | (with_reducible refine q_onRaise ?_) | (with_reducible refine q_keep ?_) | (with_reducible refine q_tryCatch ?_))))
  (with_unfolding_all refine' q_loadL CK 2 ?e ?hc ?_; (case e => with_unfolding_all exact rfl); (case hc => with_unfolding_all exact rfl); (repeat (first | (with_reducible refine q_bind ?_) | (with_reducible refine q_onRaise ?_) | (with_reducible refine q_keep ?_) | (with_reducible refine q_tryCatch ?_))))
  (with_unfolding_all refine q_unb ?_; (repeat (first | (with_reducible refine q_bind ?_) | (with_reducible refine q_onRaise ?_) | (with_reducible refine q_keep ?_) | (with_reducible refine q_tryCatch ?_))))
  (with_unfolding_all refine q_unb ?_; (repeat (first | (with_reducible refine q_bind ?_) | (with_reducible refine q_onRaise ?_) | (with_reducible refine q_keep ?_) | (with_reducible refine q_tryCatch ?_))))
  (with_unfolding_all refine q_unb ?_; (repeat (first | (with_reducible refine q_bind ?_) | (with_reducible refine q_onRaise ?_) | (with_reducible refine q_keep ?_) | (with_reducible refine q_tryCatch ?_))))
  (with_unfolding_all refine q_pure ?_)
  (with_reducible refine q_again (by kernel_rfl!) ?_; ((with_reducible refine' q_dc ?_ ?ce; (case ce => (with_unfolding_all conv => (lhs; whnf; (try dsimp only))))); (with_reducible refine q_code ?_); (repeat (first | (with_reducible refine q_bind ?_) | (with_reducible refine q_onRaise ?_) | (with_reducible refine q_keep ?_) | (with_reducible refine q_tryCatch ?_)))))
  (with_unfolding_all refine' q_loadL CK 2 ?e ?hc ?_; (case e => with_unfolding_all exact rfl); (case hc => with_unfolding_all exact rfl); (repeat (first | (with_reducible refine q_bind ?_) | (with_reducible refine q_onRaise ?_) | (with_reducible refine q_keep ?_) | (with_reducible refine q_tryCatch ?_))))
  (with_unfolding_all refine q_unb ?_; (repeat (first | (with_reducible refine q_bind ?_) | (with_reducible refine q_onRaise ?_) | (with_reducible refine q_keep ?_) | (with_reducible refine q_tryCatch ?_))))
  (with_unfolding_all refine q_unb ?_; (repeat (first | (with_reducible refine q_bind ?_) | (with_reducible refine q_onRaise ?_) | (with_reducible refine q_keep ?_) | (with_reducible refine q_tryCatch ?_))))
  (with_unfolding_all refine q_unb ?_; (repeat (first | (with_reducible refine q_bind ?_) | (with_reducible refine q_onRaise ?_) | (with_reducible refine q_keep ?_) | (with_reducible refine q_tryCatch ?_))))
  (with_unfolding_all refine' q_loadL CK 2 ?e ?hc ?_; (case e => with_unfolding_all exact rfl); (case hc => with_unfolding_all exact rfl); (repeat (first | (with_reducible refine q_bind ?_) | (with_reducible refine q_onRaise ?_) | (with_reducible refine q_keep ?_) | (with_reducible refine q_tryCatch ?_))))
  (with_unfolding_all refine q_unb ?_; (repeat (first | (with_reducible refine q_bind ?_) | (with_reducible refine q_onRaise ?_) | (with_reducible refine q_keep ?_) | (with_reducible refine q_tryCatch ?_))))
  (with_unfolding_all refine q_unb ?_; (repeat (first | (with_reducible refine q_bind ?_) | (with_reducible refine q_onRaise ?_) | (with_reducible refine q_keep ?_) | (with_reducible refine q_tryCatch ?_))))
  (with_unfolding_all refine q_unb ?_; (repeat (first | (with_reducible refine q_bind ?_) | (with_reducible refine q_onRaise ?_) | (with_reducible refine q_keep ?_) | (with_reducible refine q_tryCatch ?_))))
  (with_unfolding_all refine q_loadH hi (by first | exact rfl | exact or_r rfl) ?_; (repeat (first | (with_reducible refine q_bind ?_) | (with_reducible refine q_onRaise ?_) | (with_reducible refine q_keep ?_) | (with_reducible refine q_tryCatch ?_))))
  (with_unfolding_all refine q_unb ?_; (repeat (first | (with_reducible refine q_bind ?_) | (with_reducible refine q_onRaise ?_) | (with_reducible refine q_keep ?_) | (with_reducible refine q_tryCatch ?_))))
  (with_unfolding_all refine q_unb ?_; (repeat (first | (with_reducible refine q_bind ?_) | (with_reducible refine q_onRaise ?_) | (with_reducible refine q_keep ?_) | (with_reducible refine q_tryCatch ?_))))
  (with_unfolding_all refine' q_loadL CK 3 ?e ?hc ?_; (case e => with_unfolding_all exact rfl); (case hc => with_unfolding_all exact rfl); (repeat (first | (with_reducible refine q_bind ?_) | (with_reducible refine q_onRaise ?_) | (with_reducible refine q_keep ?_) | (with_reducible refine q_tryCatch ?_))))
  (with_unfolding_all refine q_unb ?_; (repeat (first | (with_reducible refine q_bind ?_) | (with_reducible refine q_onRaise ?_) | (with_reducible refine q_keep ?_) | (with_reducible refine q_tryCatch ?_))))
  (with_unfolding_all refine q_unb ?_; (repeat (first | (with_reducible refine q_bind ?_) | (with_reducible refine q_onRaise ?_) | (with_reducible refine q_keep ?_) | (with_reducible refine q_tryCatch ?_))))
  (with_unfolding_all refine q_unb ?_; (repeat (first | (with_reducible refine q_bind ?_) | (with_reducible refine q_onRaise ?_) | (with_reducible refine q_keep ?_) | (with_reducible refine q_tryCatch ?_))))
  (with_unfolding_all refine q_unb ?_; (repeat (first | (with_reducible refine q_bind ?_) | (with_reducible refine q_onRaise ?_) | (with_reducible refine q_keep ?_) | (with_reducible refine q_tryCatch ?_))))
  (with_unfolding_all refine q_loadH hi (by first | exact rfl | exact or_r rfl) ?_; (repeat (first | (with_reducible refine q_bind ?_) | (with_reducible refine q_onRaise ?_) | (with_reducible refine q_keep ?_) | (with_reducible refine q_tryCatch ?_))))
  (with_unfolding_all refine q_unb ?_; (repeat (first | (with_reducible refine q_bind ?_) | (with_reducible refine q_onRaise ?_) | (with_reducible refine q_keep ?_) | (with_reducible refine q_tryCatch ?_))))
  (with_unfolding_all refine q_unb ?_; (repeat (first | (with_reducible refine q_bind ?_) | (with_reducible refine q_onRaise ?_) | (with_reducible refine q_keep ?_) | (with_reducible refine q_tryCatch ?_))))
  (with_unfolding_all refine q_pure ?_)
  (with_reducible refine q_done ?_)
  (with_reducible refine q_ret ?_; (repeat (first | (with_reducible refine q_bind ?_) | (with_reducible refine q_onRaise ?_) | (with_reducible refine q_keep ?_) | (with_reducible refine q_tryCatch ?_))))
  (with_unfolding_all refine q_unb ?_; (repeat (first | (with_reducible refine q_bind ?_) | (with_reducible refine q_onRaise ?_) | (with_reducible refine q_keep ?_) | (with_reducible refine q_tryCatch ?_))))
  (with_unfolding_all refine q_unb ?_; (repeat (first | (with_reducible refine q_bind ?_) | (with_reducible refine q_onRaise ?_) | (with_reducible refine q_keep ?_) | (with_reducible refine q_tryCatch ?_))))
  (with_unfolding_all refine q_pure ?_)
  (with_reducible refine q_done ?_)
  (with_reducible refine q_ret ?_; (repeat (first | (with_reducible refine q_bind ?_) | (with_reducible refine q_onRaise ?_) | (with_reducible refine q_keep ?_) | (with_reducible refine q_tryCatch ?_))))
  (with_unfolding_all refine q_unb ?_; (repeat (first | (with_reducible refine q_bind ?_) | (with_reducible refine q_onRaise ?_) | (with_reducible refine q_keep ?_) | (with_reducible refine q_tryCatch ?_))))
  (with_unfolding_all refine q_unb ?_; (repeat (first | (with_reducible refine q_bind ?_) | (with_reducible refine q_onRaise ?_) | (with_reducible refine q_keep ?_) | (with_reducible refine q_tryCatch ?_))))
  (with_unfolding_all refine q_unb ?_; (repeat (first | (with_reducible refine q_bind ?_) | (with_reducible refine q_onRaise ?_) | (with_reducible refine q_keep ?_) | (with_reducible refine q_tryCatch ?_))))
  (with_unfolding_all refine q_unb ?_; (repeat (first | (with_reducible refine q_bind ?_) | (with_reducible refine q_onRaise ?_) | (with_reducible refine q_keep ?_) | (with_reducible refine q_tryCatch ?_))))
  (with_unfolding_all refine q_at ?_; (repeat (first | (with_reducible refine q_bind ?_) | (with_reducible refine q_onRaise ?_) | (with_reducible refine q_keep ?_) | (with_reducible refine q_tryCatch ?_))))
  (with_unfolding_all refine q_unb ?_; (repeat (first | (with_reducible refine q_bind ?_) | (with_reducible refine q_onRaise ?_) | (with_reducible refine q_keep ?_) | (with_reducible refine q_tryCatch ?_))))
  (with_unfolding_all refine' q_loadI 0 ?e ?_; (case e => with_unfolding_all exact rfl); (repeat (first | (with_reducible refine q_bind ?_) | (with_reducible refine q_onRaise ?_) | (with_reducible refine q_keep ?_) | (with_reducible refine q_tryCatch ?_))))
  (with_unfolding_all refine q_unb ?_; (repeat (first | (with_reducible refine q_bind ?_) | (with_reducible refine q_onRaise ?_) | (with_reducible refine q_keep ?_) | (with_reducible refine q_tryCatch ?_))))
  (with_unfolding_all refine q_unb ?_; (repeat (first | (with_reducible refine q_bind ?_) | (with_reducible refine q_onRaise ?_) | (with_reducible refine q_keep ?_) | (with_reducible refine q_tryCatch ?_))))
  (with_unfolding_all refine q_unb ?_; (repeat (first | (with_reducible refine q_bind ?_) | (with_reducible refine q_onRaise ?_) | (with_reducible refine q_keep ?_) | (with_reducible refine q_tryCatch ?_))))
  (with_unfolding_all refine q_at ?_; (repeat (first | (with_reducible refine q_bind ?_) | (with_reducible refine q_onRaise ?_) | (with_reducible refine q_keep ?_) | (with_reducible refine q_tryCatch ?_))))
  (with_unfolding_all refine q_unb ?_; (repeat (first | (with_reducible refine q_bind ?_) | (with_reducible refine q_onRaise ?_) | (with_reducible refine q_keep ?_) | (with_reducible refine q_tryCatch ?_))))
  (with_unfolding_all refine q_fresh ?_; (repeat (first | (with_reducible refine q_bind ?_) | (with_reducible refine q_onRaise ?_) | (with_reducible refine q_keep ?_) | (with_reducible refine q_tryCatch ?_))))
  (with_unfolding_all refine q_unb ?_; (repeat (first | (with_reducible refine q_bind ?_) | (with_reducible refine q_onRaise ?_) | (with_reducible refine q_keep ?_) | (with_reducible refine q_tryCatch ?_))))
  (with_unfolding_all refine q_unb ?_; (repeat (first | (with_reducible refine q_bind ?_) | (with_reducible refine q_onRaise ?_) | (with_reducible refine q_keep ?_) | (with_reducible refine q_tryCatch ?_))))
  (with_unfolding_all refine q_loadH hj (by first | exact rfl | exact or_r rfl) ?_; (repeat (first | (with_reducible refine q_bind ?_) | (with_reducible refine q_onRaise ?_) | (with_reducible refine q_keep ?_) | (with_reducible refine q_tryCatch ?_))))
  (with_unfolding_all refine q_unb ?_; (repeat (first | (with_reducible refine q_bind ?_) | (with_reducible refine q_onRaise ?_) | (with_reducible refine q_keep ?_) | (with_reducible refine q_tryCatch ?_))))
  (with_unfolding_all refine q_unb ?_; (repeat (first | (with_reducible refine q_bind ?_) | (with_reducible refine q_onRaise ?_) | (with_reducible refine q_keep ?_) | (with_reducible refine q_tryCatch ?_))))
  (with_unfolding_all refine' q_loadL CK 3 ?e ?hc ?_; (case e => with_unfolding_all exact rfl); (case hc => with_unfolding_all exact rfl); (repeat (first | (with_reducible refine q_bind ?_) | (with_reducible refine q_onRaise ?_) | (with_reducible refine q_keep ?_) | (with_reducible refine q_tryCatch ?_))))
  (with_unfolding_all refine q_unb ?_; (repeat (first | (with_reducible refine q_bind ?_) | (with_reducible refine q_onRaise ?_) | (with_reducible refine q_keep ?_) | (with_reducible refine q_tryCatch ?_))))
  (with_unfolding_all refine q_unb ?_; (repeat (first | (with_reducible refine q_bind ?_) | (with_reducible refine q_onRaise ?_) | (with_reducible refine q_keep ?_) | (with_reducible refine q_tryCatch ?_))))
  (with_unfolding_all refine q_unb ?_; (repeat (first | (with_reducible refine q_bind ?_) | (with_reducible refine q_onRaise ?_) | (with_reducible refine q_keep ?_) | (with_reducible refine q_tryCatch ?_))))
  (with_unfolding_all refine' q_loadL CK 3 ?e ?hc ?_; (case e => with_unfolding_all exact rfl); (case hc => with_unfolding_all exact rfl); (repeat (first | (with_reducible refine q_bind ?_) | (with_reducible refine q_onRaise ?_) | (with_reducible refine q_keep ?_) | (with_reducible refine q_tryCatch ?_))))
  (with_unfolding_all refine q_unb ?_; (repeat (first | (with_reducible refine q_bind ?_) | (with_reducible refine q_onRaise ?_) | (with_reducible refine q_keep ?_) | (with_reducible refine q_tryCatch ?_))))
  (with_unfolding_all refine q_unb ?_; (repeat (first | (with_reducible refine q_bind ?_) | (with_reducible refine q_onRaise ?_) | (with_reducible refine q_keep ?_) | (with_reducible refine q_tryCatch ?_))))
  (with_unfolding_all refine' q_loadL CK 4 ?e ?hc ?_; (case e => with_unfolding_all exact rfl); (case hc => with_unfolding_all exact rfl); (repeat (first | (with_reducible refine q_bind ?_) | (with_reducible refine q_onRaise ?_) | (with_reducible refine q_keep ?_) | (with_reducible refine q_tryCatch ?_))))
  (with_unfolding_all refine q_unb ?_; (repeat (first | (with_reducible refine q_bind ?_) | (with_reducible refine q_onRaise ?_) | (with_reducible refine q_keep ?_) | (with_reducible refine q_tryCatch ?_))))
  (with_unfolding_all refine q_unb ?_; (repeat (first | (with_reducible refine q_bind ?_) | (with_reducible refine q_onRaise ?_) | (with_reducible refine q_keep ?_) | (with_reducible refine q_tryCatch ?_))))
  (with_unfolding_all refine q_unb ?_; (repeat (first | (with_reducible refine q_bind ?_) | (with_reducible refine q_onRaise ?_) | (with_reducible refine q_keep ?_) | (with_reducible refine q_tryCatch ?_))))
  (with_unfolding_all refine q_unb ?_; (repeat (first | (with_reducible refine q_bind ?_) | (with_reducible refine q_onRaise ?_) | (with_reducible refine q_keep ?_) | (with_reducible refine q_tryCatch ?_))))
  (with_unfolding_all refine q_unb ?_; (repeat (first | (with_reducible refine q_bind ?_) | (with_reducible refine q_onRaise ?_) | (with_reducible refine q_keep ?_) | (with_reducible refine q_tryCatch ?_))); (with_reducible refine' q_dq ?_ ?ne; (case ne => (with_unfolding_all conv => (lhs; whnf)))))
  (with_reducible refine q_call (Option.some_ne_none _).symm ?_; ((with_reducible refine' q_dc ?_ ?ce; (case ce => (with_unfolding_all conv => (lhs; whnf; (try dsimp only))))); (with_reducible refine q_code ?_); (repeat (first | (with_reducible refine q_bind ?_) | (with_reducible refine q_onRaise ?_) | (with_reducible refine q_keep ?_) | (with_reducible refine q_tryCatch ?_)))))
  (with_unfolding_all refine q_loadH hj (by first | exact rfl | exact or_r rfl) ?_; (repeat (first | (with_reducible refine q_bind ?_) | (with_reducible refine q_onRaise ?_) | (with_reducible refine q_keep ?_) | (with_reducible refine q_tryCatch ?_))))
  (with_unfolding_all refine q_unb ?_; (repeat (first | (with_reducible refine q_bind ?_) | (with_reducible refine q_onRaise ?_) | (with_reducible refine q_keep ?_) | (with_reducible refine q_tryCatch ?_))))
  (with_unfolding_all refine q_unb ?_; (repeat (first | (with_reducible refine q_bind ?_) | (with_reducible refine q_onRaise ?_) | (with_reducible refine q_keep ?_) | (with_reducible refine q_tryCatch ?_))))
  (with_unfolding_all refine' q_loadL CK 3 ?e ?hc ?_; (case e => with_unfolding_all exact rfl); (case hc => with_unfolding_all exact rfl); (repeat (first | (with_reducible refine q_bind ?_) | (with_reducible refine q_onRaise ?_) | (with_reducible refine q_keep ?_) | (with_reducible refine q_tryCatch ?_))))
  (with_unfolding_all refine q_unb ?_; (repeat (first | (with_reducible refine q_bind ?_) | (with_reducible refine q_onRaise ?_) | (with_reducible refine q_keep ?_) | (with_reducible refine q_tryCatch ?_))))
  (with_unfolding_all refine q_unb ?_; (repeat (first | (with_reducible refine q_bind ?_) | (with_reducible refine q_onRaise ?_) | (with_reducible refine q_keep ?_) | (with_reducible refine q_tryCatch ?_))))
  (with_unfolding_all refine q_unb ?_; (repeat (first | (with_reducible refine q_bind ?_) | (with_reducible refine q_onRaise ?_) | (with_reducible refine q_keep ?_) | (with_reducible refine q_tryCatch ?_))))
  (with_unfolding_all refine' q_loadL CK 3 ?e ?hc ?_; (case e => with_unfolding_all exact rfl); (case hc => with_unfolding_all exact rfl); (repeat (first | (with_reducible refine q_bind ?_) | (with_reducible refine q_onRaise ?_) | (with_reducible refine q_keep ?_) | (with_reducible refine q_tryCatch ?_))))
  (with_unfolding_all refine q_unb ?_; (repeat (first | (with_reducible refine q_bind ?_) | (with_reducible refine q_onRaise ?_) | (with_reducible refine q_keep ?_) | (with_reducible refine q_tryCatch ?_))))
  (with_unfolding_all refine q_unb ?_; (repeat (first | (with_reducible refine q_bind ?_) | (with_reducible refine q_onRaise ?_) | (with_reducible refine q_keep ?_) | (with_reducible refine q_tryCatch ?_))))
  (with_unfolding_all refine' q_loadL CK 4 ?e ?hc ?_; (case e => with_unfolding_all exact rfl); (case hc => with_unfolding_all exact rfl); (repeat (first | (with_reducible refine q_bind ?_) | (with_reducible refine q_onRaise ?_) | (with_reducible refine q_keep ?_) | (with_reducible refine q_tryCatch ?_))))
  (with_unfolding_all refine q_unb ?_; (repeat (first | (with_reducible refine q_bind ?_) | (with_reducible refine q_onRaise ?_) | (with_reducible refine q_keep ?_) | (with_reducible refine q_tryCatch ?_))))
  (with_unfolding_all refine q_unb ?_; (repeat (first | (with_reducible refine q_bind ?_) | (with_reducible refine q_onRaise ?_) | (with_reducible refine q_keep ?_) | (with_reducible refine q_tryCatch ?_))))
  (with_unfolding_all refine q_unb ?_; (repeat (first | (with_reducible refine q_bind ?_) | (with_reducible refine q_onRaise ?_) | (with_reducible refine q_keep ?_) | (with_reducible refine q_tryCatch ?_))))
  (with_unfolding_all refine q_unb ?_; (repeat (first | (with_reducible refine q_bind ?_) | (with_reducible refine q_onRaise ?_) | (with_reducible refine q_keep ?_) | (with_reducible refine q_tryCatch ?_))))
  (with_unfolding_all refine q_unb ?_; (repeat (first | (with_reducible refine q_bind ?_) | (with_reducible refine q_onRaise ?_) | (with_reducible refine q_keep ?_) | (with_reducible refine q_tryCatch ?_))))
  (with_unfolding_all refine' q_loadL CK 2 ?e ?hc ?_; (case e => with_unfolding_all exact rfl); (case hc => with_unfolding_all exact rfl); (repeat (first | (with_reducible refine q_bind ?_) | (with_reducible refine q_onRaise ?_) | (with_reducible refine q_keep ?_) | (with_reducible refine q_tryCatch ?_))))
  (with_unfolding_all refine q_unb ?_; (repeat (first | (with_reducible refine q_bind ?_) | (with_reducible refine q_onRaise ?_) | (with_reducible refine q_keep ?_) | (with_reducible refine q_tryCatch ?_))))
  (with_unfolding_all refine q_unb ?_; (repeat (first | (with_reducible refine q_bind ?_) | (with_reducible refine q_onRaise ?_) | (with_reducible refine q_keep ?_) | (with_reducible refine q_tryCatch ?_))))
  (with_unfolding_all refine q_unb ?_; (repeat (first | (with_reducible refine q_bind ?_) | (with_reducible refine q_onRaise ?_) | (with_reducible refine q_keep ?_) | (with_reducible refine q_tryCatch ?_))))
  (with_unfolding_all refine' q_loadL CK 2 ?e ?hc ?_; (case e => with_unfolding_all exact rfl); (case hc => with_unfolding_all exact rfl); (repeat (first | (with_reducible refine q_bind ?_) | (with_reducible refine q_onRaise ?_) | (with_reducible refine q_keep ?_) | (with_reducible refine q_tryCatch ?_))))
  (with_unfolding_all refine q_unb ?_; (repeat (first | (with_reducible refine q_bind ?_) | (with_reducible refine q_onRaise ?_) | (with_reducible refine q_keep ?_) | (with_reducible refine q_tryCatch ?_))))
  (with_unfolding_all refine q_unb ?_; (repeat (first | (with_reducible refine q_bind ?_) | (with_reducible refine q_onRaise ?_) | (with_reducible refine q_keep ?_) | (with_reducible refine q_tryCatch ?_))))
  (with_unfolding_all refine q_unb ?_; (repeat (first | (with_reducible refine q_bind ?_) | (with_reducible refine q_onRaise ?_) | (with_reducible refine q_keep ?_) | (with_reducible refine q_tryCatch ?_))))
  (with_unfolding_all refine q_unb ?_; (repeat (first | (with_reducible refine q_bind ?_) | (with_reducible refine q_onRaise ?_) | (with_reducible refine q_keep ?_) | (with_reducible refine q_tryCatch ?_))))
  (with_unfolding_all refine q_unb ?_; (repeat (first | (with_reducible refine q_bind ?_) | (with_reducible refine q_onRaise ?_) | (with_reducible refine q_keep ?_) | (with_reducible refine q_tryCatch ?_))))
  (with_unfolding_all refine q_rule ?_; (repeat (first | (with_reducible refine q_bind ?_) | (with_reducible refine q_onRaise ?_) | (with_reducible refine q_keep ?_) | (with_reducible refine q_tryCatch ?_))))
  (with_unfolding_all refine q_unb ?_; (repeat (first | (with_reducible refine q_bind ?_) | (with_reducible refine q_onRaise ?_) | (with_reducible refine q_keep ?_) | (with_reducible refine q_tryCatch ?_))))
  (with_unfolding_all refine q_unb ?_; (repeat (first | (with_reducible refine q_bind ?_) | (with_reducible refine q_onRaise ?_) | (with_reducible refine q_keep ?_) | (with_reducible refine q_tryCatch ?_))))
  (with_unfolding_all refine' q_loadL CK 3 ?e ?hc ?_; (case e => with_unfolding_all exact rfl); (case hc => with_unfolding_all exact rfl); (repeat (first | (with_reducible refine q_bind ?_) | (with_reducible refine q_onRaise ?_) | (with_reducible refine q_keep ?_) | (with_reducible refine q_tryCatch ?_))))
  (with_unfolding_all refine q_unb ?_; (repeat (first | (with_reducible refine q_bind ?_) | (with_reducible refine q_onRaise ?_) | (with_reducible refine q_keep ?_) | (with_reducible refine q_tryCatch ?_))))
  (with_unfolding_all refine q_unb ?_; (repeat (first | (with_reducible refine q_bind ?_) | (with_reducible refine q_onRaise ?_) | (with_reducible refine q_keep ?_) | (with_reducible refine q_tryCatch ?_))))
  (with_unfolding_all refine q_unb ?_; (repeat (first | (with_reducible refine q_bind ?_) | (with_reducible refine q_onRaise ?_) | (with_reducible refine q_keep ?_) | (with_reducible refine q_tryCatch ?_))))
  (with_unfolding_all refine' q_loadL CK 3 ?e ?hc ?_; (case e => with_unfolding_all exact rfl); (case hc => with_unfolding_all exact rfl); (repeat (first | (with_reducible refine q_bind ?_) | (with_reducible refine q_onRaise ?_) | (with_reducible refine q_keep ?_) | (with_reducible refine q_tryCatch ?_))))
  (with_unfolding_all refine q_unb ?_; (repeat (first | (with_reducible refine q_bind ?_) | (with_reducible refine q_onRaise ?_) | (with_reducible refine q_keep ?_) | (with_reducible refine q_tryCatch ?_))))
  (with_unfolding_all refine q_unb ?_; (repeat (first | (with_reducible refine q_bind ?_) | (with_reducible refine q_onRaise ?_) | (with_reducible refine q_keep ?_) | (with_reducible refine q_tryCatch ?_))))
  (with_unfolding_all refine' q_loadL CK 4 ?e ?hc ?_; (case e => with_unfolding_all exact rfl); (case hc => with_unfolding_all exact rfl); (repeat (first | (with_reducible refine q_bind ?_) | (with_reducible refine q_onRaise ?_) | (with_reducible refine q_keep ?_) | (with_reducible refine q_tryCatch ?_))))
  (with_unfolding_all refine q_unb ?_; (repeat (first | (with_reducible refine q_bind ?_) | (with_reducible refine q_onRaise ?_) | (with_reducible refine q_keep ?_) | (with_reducible refine q_tryCatch ?_))))
  (with_unfolding_all refine q_unb ?_; (repeat (first | (with_reducible refine q_bind ?_) | (with_reducible refine q_onRaise ?_) | (with_reducible refine q_keep ?_) | (with_reducible refine q_tryCatch ?_))))
  (with_unfolding_all refine q_unb ?_; (repeat (first | (with_reducible refine q_bind ?_) | (with_reducible refine q_onRaise ?_) | (with_reducible refine q_keep ?_) | (with_reducible refine q_tryCatch ?_))))
  (with_unfolding_all refine q_unb ?_; (repeat (first | (with_reducible refine q_bind ?_) | (with_reducible refine q_onRaise ?_) | (with_reducible refine q_keep ?_) | (with_reducible refine q_tryCatch ?_))))
  (with_unfolding_all refine q_unb ?_; (repeat (first | (with_reducible refine q_bind ?_) | (with_reducible refine q_onRaise ?_) | (with_reducible refine q_keep ?_) | (with_reducible refine q_tryCatch ?_))); (with_reducible refine' q_dq ?_ ?ne; (case ne => (with_unfolding_all conv => (lhs; whnf)))))
  (with_reducible refine q_call (Option.some_ne_none _).symm ?_; ((with_reducible refine' q_dc ?_ ?ce; (case ce => (with_unfolding_all conv => (lhs; whnf; (try dsimp only))))); (with_reducible refine q_code ?_); (repeat (first | (with_reducible refine q_bind ?_) | (with_reducible refine q_onRaise ?_) | (with_reducible refine q_keep ?_) | (with_reducible refine q_tryCatch ?_)))))
  (with_unfolding_all refine' q_loadL CK 2 ?e ?hc ?_; (case e => with_unfolding_all exact rfl); (case hc => with_unfolding_all exact rfl); (repeat (first | (with_reducible refine q_bind ?_) | (with_reducible refine q_onRaise ?_) | (with_reducible refine q_keep ?_) | (with_reducible refine q_tryCatch ?_))))
  (with_unfolding_all refine q_unb ?_; (repeat (first | (with_reducible refine q_bind ?_) | (with_reducible refine q_onRaise ?_) | (with_reducible refine q_keep ?_) | (with_reducible refine q_tryCatch ?_))))
  (with_unfolding_all refine q_unb ?_; (repeat (first | (with_reducible refine q_bind ?_) | (with_reducible refine q_onRaise ?_) | (with_reducible refine q_keep ?_) | (with_reducible refine q_tryCatch ?_))))
  (with_unfolding_all refine q_unb ?_; (repeat (first | (with_reducible refine q_bind ?_) | (with_reducible refine q_onRaise ?_) | (with_reducible refine q_keep ?_) | (with_reducible refine q_tryCatch ?_))))
  (with_unfolding_all refine q_unb ?_; (repeat (first | (with_reducible refine q_bind ?_) | (with_reducible refine q_onRaise ?_) | (with_reducible refine q_keep ?_) | (with_reducible refine q_tryCatch ?_))))
  (with_unfolding_all refine q_pure ?_)
  (with_reducible refine q_again (by kernel_rfl!) ?_; ((with_reducible refine' q_dc ?_ ?ce; (case ce => (with_unfolding_all conv => (lhs; whnf; (try dsimp only))))); (with_reducible refine q_code ?_); (repeat (first | (with_reducible refine q_bind ?_) | (with_reducible refine q_onRaise ?_) | (with_reducible refine q_keep ?_) | (with_reducible refine q_tryCatch ?_)))))
  (with_unfolding_all refine' q_loadL CK 2 ?e ?hc ?_; (case e => with_unfolding_all exact rfl); (case hc => with_unfolding_all exact rfl); (repeat (first | (with_reducible refine q_bind ?_) | (with_reducible refine q_onRaise ?_) | (with_reducible refine q_keep ?_) | (with_reducible refine q_tryCatch ?_))))
  (with_unfolding_all refine q_unb ?_; (repeat (first | (with_reducible refine q_bind ?_) | (with_reducible refine q_onRaise ?_) | (with_reducible refine q_keep ?_) | (with_reducible refine q_tryCatch ?_))))
  (with_unfolding_all refine q_unb ?_; (repeat (first | (with_reducible refine q_bind ?_) | (with_reducible refine q_onRaise ?_) | (with_reducible refine q_keep ?_) | (with_reducible refine q_tryCatch ?_))))
  (with_unfolding_all refine q_unb ?_; (repeat (first | (with_reducible refine q_bind ?_) | (with_reducible refine q_onRaise ?_) | (with_reducible refine q_keep ?_) | (with_reducible refine q_tryCatch ?_))))
  (with_unfolding_all refine' q_loadL CK 2 ?e ?hc ?_; (case e => with_unfolding_all exact rfl); (case hc => with_unfolding_all exact rfl); (repeat (first | (with_reducible refine q_bind ?_) | (with_reducible refine q_onRaise ?_) | (with_reducible refine q_keep ?_) | (with_reducible refine q_tryCatch ?_))))
  (with_unfolding_all refine q_unb ?_; (repeat (first | (with_reducible refine q_bind ?_) | (with_reducible refine q_onRaise ?_) | (with_reducible refine q_keep ?_) | (with_reducible refine q_tryCatch ?_))))
  (with_unfolding_all refine q_unb ?_; (repeat (first | (with_reducible refine q_bind ?_) | (with_reducible refine q_onRaise ?_) | (with_reducible refine q_keep ?_) | (with_reducible refine q_tryCatch ?_))))
  (with_unfolding_all refine q_unb ?_; (repeat (first | (with_reducible refine q_bind ?_) | (with_reducible refine q_onRaise ?_) | (with_reducible refine q_keep ?_) | (with_reducible refine q_tryCatch ?_))))
  (with_unfolding_all refine q_unb ?_; (repeat (first | (with_reducible refine q_bind ?_) | (with_reducible refine q_onRaise ?_) | (with_reducible refine q_keep ?_) | (with_reducible refine q_tryCatch ?_))))
  (with_unfolding_all refine q_loadH hj (by first | exact rfl | exact or_r rfl) ?_; (repeat (first | (with_reducible refine q_bind ?_) | (with_reducible refine q_onRaise ?_) | (with_reducible refine q_keep ?_) | (with_reducible refine q_tryCatch ?_))))
  (with_unfolding_all refine q_unb ?_; (repeat (first | (with_reducible refine q_bind ?_) | (with_reducible refine q_onRaise ?_) | (with_reducible refine q_keep ?_) | (with_reducible refine q_tryCatch ?_))))
  (with_unfolding_all refine q_unb ?_; (repeat (first | (with_reducible refine q_bind ?_) | (with_reducible refine q_onRaise ?_) | (with_reducible refine q_keep ?_) | (with_reducible refine q_tryCatch ?_))))
  (with_unfolding_all refine' q_loadL CK 3 ?e ?hc ?_; (case e => with_unfolding_all exact rfl); (case hc => with_unfolding_all exact rfl); (repeat (first | (with_reducible refine q_bind ?_) | (with_reducible refine q_onRaise ?_) | (with_reducible refine q_keep ?_) | (with_reducible refine q_tryCatch ?_))))
  (with_unfolding_all refine q_unb ?_; (repeat (first | (with_reducible refine q_bind ?_) | (with_reducible refine q_onRaise ?_) | (with_reducible refine q_keep ?_) | (with_reducible refine q_tryCatch ?_))))
  (with_unfolding_all refine q_unb ?_; (repeat (first | (with_reducible refine q_bind ?_) | (with_reducible refine q_onRaise ?_) | (with_reducible refine q_keep ?_) | (with_reducible refine q_tryCatch ?_))))
  (with_unfolding_all refine q_unb ?_; (repeat (first | (with_reducible refine q_bind ?_) | (with_reducible refine q_onRaise ?_) | (with_reducible refine q_keep ?_) | (with_reducible refine q_tryCatch ?_))))
  (with_unfolding_all refine q_unb ?_; (repeat (first | (with_reducible refine q_bind ?_) | (with_reducible refine q_onRaise ?_) | (with_reducible refine q_keep ?_) | (with_reducible refine q_tryCatch ?_))); (with_reducible refine' q_dq ?_ ?ne; (case ne => (with_unfolding_all conv => (lhs; whnf)))))
  (with_reducible refine q_boolF ?bh ?_; (case bh => (first | kernel_rfl! | (apply not_t; with_unfolding_all exact contains_self) | (with_unfolding_all exact bneV_self) | (with_unfolding_all refine beqV_int ?bi; (case bi => omega)) | (with_unfolding_all refine beqI_no ?bi; (case bi => omega)) | (with_unfolding_all refine ltI_no ?bi; (case bi => omega)) | (apply and_l; kernel_rfl!) | (apply and_r; kernel_rfl!))); (repeat (first | (with_reducible refine q_bind ?_) | (with_reducible refine q_onRaise ?_) | (with_reducible refine q_keep ?_) | (with_reducible refine q_tryCatch ?_))))
  (with_unfolding_all refine q_unb ?_; (repeat (first | (with_reducible refine q_bind ?_) | (with_reducible refine q_onRaise ?_) | (with_reducible refine q_keep ?_) | (with_reducible refine q_tryCatch ?_))))
  (with_unfolding_all refine' q_loadL CK 2 ?e ?hc ?_; (case e => with_unfolding_all exact rfl); (case hc => with_unfolding_all exact rfl); (repeat (first | (with_reducible refine q_bind ?_) | (with_reducible refine q_onRaise ?_) | (with_reducible refine q_keep ?_) | (with_reducible refine q_tryCatch ?_))))
  (with_unfolding_all refine q_unb ?_; (repeat (first | (with_reducible refine q_bind ?_) | (with_reducible refine q_onRaise ?_) | (with_reducible refine q_keep ?_) | (with_reducible refine q_tryCatch ?_))))
  (with_unfolding_all refine q_unb ?_; (repeat (first | (with_reducible refine q_bind ?_) | (with_reducible refine q_onRaise ?_) | (with_reducible refine q_keep ?_) | (with_reducible refine q_tryCatch ?_))))
  (with_unfolding_all refine q_unb ?_; (repeat (first | (with_reducible refine q_bind ?_) | (with_reducible refine q_onRaise ?_) | (with_reducible refine q_keep ?_) | (with_reducible refine q_tryCatch ?_))))
  (with_unfolding_all refine q_rule ?_; (repeat (first | (with_reducible refine q_bind ?_) | (with_reducible refine q_onRaise ?_) | (with_reducible refine q_keep ?_) | (with_reducible refine q_tryCatch ?_))))
  (with_unfolding_all refine q_unb ?_; (repeat (first | (with_reducible refine q_bind ?_) | (with_reducible refine q_onRaise ?_) | (with_reducible refine q_keep ?_) | (with_reducible refine q_tryCatch ?_))))
  (with_unfolding_all refine' q_loadL CK 2 ?e ?hc ?_; (case e => with_unfolding_all exact rfl); (case hc => with_unfolding_all exact rfl); (repeat (first | (with_reducible refine q_bind ?_) | (with_reducible refine q_onRaise ?_) | (with_reducible refine q_keep ?_) | (with_reducible refine q_tryCatch ?_))))
  (with_unfolding_all refine q_unb ?_; (repeat (first | (with_reducible refine q_bind ?_) | (with_reducible refine q_onRaise ?_) | (with_reducible refine q_keep ?_) | (with_reducible refine q_tryCatch ?_))))
  (with_unfolding_all refine q_unb ?_; (repeat (first | (with_reducible refine q_bind ?_) | (with_reducible refine q_onRaise ?_) | (with_reducible refine q_keep ?_) | (with_reducible refine q_tryCatch ?_))))
  (with_unfolding_all refine q_unb ?_; (repeat (first | (with_reducible refine q_bind ?_) | (with_reducible refine q_onRaise ?_) | (with_reducible refine q_keep ?_) | (with_reducible refine q_tryCatch ?_))))
  (with_unfolding_all refine q_pure ?_)
  (with_reducible refine q_again (by kernel_rfl!) ?_; ((with_reducible refine' q_dc ?_ ?ce; (case ce => (with_unfolding_all conv => (lhs; whnf; (try dsimp only))))); (with_reducible refine q_code ?_); (repeat (first | (with_reducible refine q_bind ?_) | (with_reducible refine q_onRaise ?_) | (with_reducible refine q_keep ?_) | (with_reducible refine q_tryCatch ?_)))))
  (with_unfolding_all refine' q_loadL CK 2 ?e ?hc ?_; (case e => with_unfolding_all exact rfl); (case hc => with_unfolding_all exact rfl); (repeat (first | (with_reducible refine q_bind ?_) | (with_reducible refine q_onRaise ?_) | (with_reducible refine q_keep ?_) | (with_reducible refine q_tryCatch ?_))))
  (with_unfolding_all refine q_unb ?_; (repeat (first | (with_reducible refine q_bind ?_) | (with_reducible refine q_onRaise ?_) | (with_reducible refine q_keep ?_) | (with_reducible refine q_tryCatch ?_))))
  (with_unfolding_all refine q_unb ?_; (repeat (first | (with_reducible refine q_bind ?_) | (with_reducible refine q_onRaise ?_) | (with_reducible refine q_keep ?_) | (with_reducible refine q_tryCatch ?_))))
  (with_unfolding_all refine q_unb ?_; (repeat (first | (with_reducible refine q_bind ?_) | (with_reducible refine q_onRaise ?_) | (with_reducible refine q_keep ?_) | (with_reducible refine q_tryCatch ?_))))
  (with_unfolding_all refine' q_loadL CK 2 ?e ?hc ?_; (case e => with_unfolding_all exact rfl); (case hc => with_unfolding_all exact rfl); (repeat (first | (with_reducible refine q_bind ?_) | (with_reducible refine q_onRaise ?_) | (with_reducible refine q_keep ?_) | (with_reducible refine q_tryCatch ?_))))
  (with_unfolding_all refine q_unb ?_; (repeat (first | (with_reducible refine q_bind ?_) | (with_reducible refine q_onRaise ?_) | (with_reducible refine q_keep ?_) | (with_reducible refine q_tryCatch ?_))))
  (with_unfolding_all refine q_unb ?_; (repeat (first | (with_reducible refine q_bind ?_) | (with_reducible refine q_onRaise ?_) | (with_reducible refine q_keep ?_) | (with_reducible refine q_tryCatch ?_))))
  (with_unfolding_all refine q_unb ?_; (repeat (first | (with_reducible refine q_bind ?_) | (with_reducible refine q_onRaise ?_) | (with_reducible refine q_keep ?_) | (with_reducible refine q_tryCatch ?_))))
  (with_unfolding_all refine q_loadH hj (by first | exact rfl | exact or_r rfl) ?_; (repeat (first | (with_reducible refine q_bind ?_) | (with_reducible refine q_onRaise ?_) | (with_reducible refine q_keep ?_) | (with_reducible refine q_tryCatch ?_))))
  (with_unfolding_all refine q_unb ?_; (repeat (first | (with_reducible refine q_bind ?_) | (with_reducible refine q_onRaise ?_) | (with_reducible refine q_keep ?_) | (with_reducible refine q_tryCatch ?_))))
  (with_unfolding_all refine q_unb ?_; (repeat (first | (with_reducible refine q_bind ?_) | (with_reducible refine q_onRaise ?_) | (with_reducible refine q_keep ?_) | (with_reducible refine q_tryCatch ?_))))
  (with_unfolding_all refine' q_loadL CK 3 ?e ?hc ?_; (case e => with_unfolding_all exact rfl); (case hc => with_unfolding_all exact rfl); (repeat (first | (with_reducible refine q_bind ?_) | (with_reducible refine q_onRaise ?_) | (with_reducible refine q_keep ?_) | (with_reducible refine q_tryCatch ?_))))
  (with_unfolding_all refine q_unb ?_; (repeat (first | (with_reducible refine q_bind ?_) | (with_reducible refine q_onRaise ?_) | (with_reducible refine q_keep ?_) | (with_reducible refine q_tryCatch ?_))))
  (with_unfolding_all refine q_unb ?_; (repeat (first | (with_reducible refine q_bind ?_) | (with_reducible refine q_onRaise ?_) | (with_reducible refine q_keep ?_) | (with_reducible refine q_tryCatch ?_))))
  (with_unfolding_all refine q_unb ?_; (repeat (first | (with_reducible refine q_bind ?_) | (with_reducible refine q_onRaise ?_) | (with_reducible refine q_keep ?_) | (with_reducible refine q_tryCatch ?_))))
  (with_unfolding_all refine q_unb ?_; (repeat (first | (with_reducible refine q_bind ?_) | (with_reducible refine q_onRaise ?_) | (with_reducible refine q_keep ?_) | (with_reducible refine q_tryCatch ?_))))
  (with_unfolding_all refine q_loadH hj (by first | exact rfl | exact or_r rfl) ?_; (repeat (first | (with_reducible refine q_bind ?_) | (with_reducible refine q_onRaise ?_) | (with_reducible refine q_keep ?_) | (with_reducible refine q_tryCatch ?_))))
  (with_unfolding_all refine q_unb ?_; (repeat (first | (with_reducible refine q_bind ?_) | (with_reducible refine q_onRaise ?_) | (with_reducible refine q_keep ?_) | (with_reducible refine q_tryCatch ?_))))
  (with_unfolding_all refine q_unb ?_; (repeat (first | (with_reducible refine q_bind ?_) | (with_reducible refine q_onRaise ?_) | (with_reducible refine q_keep ?_) | (with_reducible refine q_tryCatch ?_))))
  (with_unfolding_all refine q_pure ?_)
  (with_reducible refine q_done ?_)
  (with_reducible refine q_ret ?_; (repeat (first | (with_reducible refine q_bind ?_) | (with_reducible refine q_onRaise ?_) | (with_reducible refine q_keep ?_) | (with_reducible refine q_tryCatch ?_))))
  (with_unfolding_all refine q_unb ?_; (repeat (first | (with_reducible refine q_bind ?_) | (with_reducible refine q_onRaise ?_) | (with_reducible refine q_keep ?_) | (with_reducible refine q_tryCatch ?_))))
  (with_unfolding_all refine q_unb ?_; (repeat (first | (with_reducible refine q_bind ?_) | (with_reducible refine q_onRaise ?_) | (with_reducible refine q_keep ?_) | (with_reducible refine q_tryCatch ?_))))
  (with_unfolding_all refine q_pure ?_)
  (with_reducible refine q_done ?_)
  (with_reducible refine q_ret ?_; (repeat (first | (with_reducible refine q_bind ?_) | (with_reducible refine q_onRaise ?_) | (with_reducible refine q_keep ?_) | (with_reducible refine q_tryCatch ?_))))
  (with_unfolding_all refine q_unb ?_; (repeat (first | (with_reducible refine q_bind ?_) | (with_reducible refine q_onRaise ?_) | (with_reducible refine q_keep ?_) | (with_reducible refine q_tryCatch ?_))))
  (with_unfolding_all refine q_unb ?_; (repeat (first | (with_reducible refine q_bind ?_) | (with_reducible refine q_onRaise ?_) | (with_reducible refine q_keep ?_) | (with_reducible refine q_tryCatch ?_))))
  (with_unfolding_all refine q_unb ?_; (repeat (first | (with_reducible refine q_bind ?_) | (with_reducible refine q_onRaise ?_) | (with_reducible refine q_keep ?_) | (with_reducible refine q_tryCatch ?_))))
  (with_unfolding_all refine q_unb ?_; (repeat (first | (with_reducible refine q_bind ?_) | (with_reducible refine q_onRaise ?_) | (with_reducible refine q_keep ?_) | (with_reducible refine q_tryCatch ?_))))
  (with_unfolding_all refine q_unb ?_; (repeat (first | (with_reducible refine q_bind ?_) | (with_reducible refine q_onRaise ?_) | (with_reducible refine q_keep ?_) | (with_reducible refine q_tryCatch ?_))))
  (with_unfolding_all refine q_unb ?_; (repeat (first | (with_reducible refine q_bind ?_) | (with_reducible refine q_onRaise ?_) | (with_reducible refine q_keep ?_) | (with_reducible refine q_tryCatch ?_))))
  (with_unfolding_all refine q_unb ?_; (repeat (first | (with_reducible refine q_bind ?_) | (with_reducible refine q_onRaise ?_) | (with_reducible refine q_keep ?_) | (with_reducible refine q_tryCatch ?_))))
  (with_unfolding_all refine q_at ?_; (repeat (first | (with_reducible refine q_bind ?_) | (with_reducible refine q_onRaise ?_) | (with_reducible refine q_keep ?_) | (with_reducible refine q_tryCatch ?_))))
  (with_unfolding_all refine q_unb ?_; (repeat (first | (with_reducible refine q_bind ?_) | (with_reducible refine q_onRaise ?_) | (with_reducible refine q_keep ?_) | (with_reducible refine q_tryCatch ?_))))
  (with_unfolding_all refine q_loadH hF (by first | exact rfl | exact or_r rfl) ?_; (repeat (first | (with_reducible refine q_bind ?_) | (with_reducible refine q_onRaise ?_) | (with_reducible refine q_keep ?_) | (with_reducible refine q_tryCatch ?_))))
  (with_unfolding_all refine q_unb ?_; (repeat (first | (with_reducible refine q_bind ?_) | (with_reducible refine q_onRaise ?_) | (with_reducible refine q_keep ?_) | (with_reducible refine q_tryCatch ?_))))
  (with_unfolding_all refine q_unb ?_; (repeat (first | (with_reducible refine q_bind ?_) | (with_reducible refine q_onRaise ?_) | (with_reducible refine q_keep ?_) | (with_reducible refine q_tryCatch ?_))); (with_reducible refine' q_dq ?_ ?ne; (case ne => (with_unfolding_all conv => (lhs; whnf)))))
  ((with_reducible refine q_call (Option.some_ne_none _).symm ?_); (refine' q_dc (c'' := Code.call (Value.ref F) (PySem.Args.mk [Value.ref x, Value.ref y] [])) ?_ ?ce; (case ce => with_unfolding_all exact rfl)); refine q_any ?_; intro h D k; have hst := Mem.stays D; have hl1 := Heap.get?_none_of_le (Nat.le_of_eq hsz); refine' HF _ _ h _ _ _ _ ?d1 ?d2 (frames_up ?fu hfr) ?fh ?fk ?ff ?fo ?fd ?fn hst ?_; (case fu => with_unfolding_all exact rfl); (case fh => with_unfolding_all exact rfl); (case ff => with_unfolding_all exact rfl); (case fk => exact (fun q => nomatch q)); (case fo => exact (D.nw _ (.head _)).1); (case fd => exact (fun vs e => nomatch e)); (case fn => exact Heap.get?_none_of_le (Nat.le_of_eq hsz)); (case d1 => exact (by refine dep0 ?_; (repeat (first | (with_reducible refine dep_mark ?_) | (with_reducible refine dep_under ?hw ?_; (case hw => kernel_rfl!)))); omega)); (case d2 => exact (by refine uni0 ?_; (repeat (first | (with_reducible refine uni_mark ?_) | (with_reducible refine uni_under ?hw ?_; (case hw => kernel_rfl!)))); omega)); intro tok h1 tk hp1; refine k _ h1 tk ?_; clear k D; intro ad2 had2 hz2; (with_reducible refine q_ret ?_; (repeat (first | (with_reducible refine q_bind ?_) | (with_reducible refine q_onRaise ?_) | (with_reducible refine q_keep ?_) | (with_reducible refine q_tryCatch ?_)))))
  (with_unfolding_all refine q_unb ?_; (repeat (first | (with_reducible refine q_bind ?_) | (with_reducible refine q_onRaise ?_) | (with_reducible refine q_keep ?_) | (with_reducible refine q_tryCatch ?_))))
  (with_unfolding_all refine q_unb ?_; (repeat (first | (with_reducible refine q_bind ?_) | (with_reducible refine q_onRaise ?_) | (with_reducible refine q_keep ?_) | (with_reducible refine q_tryCatch ?_))))
  (with_unfolding_all refine q_point ?_; (repeat (first | (with_reducible refine q_bind ?_) | (with_reducible refine q_onRaise ?_) | (with_reducible refine q_keep ?_) | (with_reducible refine q_tryCatch ?_))))
  (with_unfolding_all refine q_unb ?_; (repeat (first | (with_reducible refine q_bind ?_) | (with_reducible refine q_onRaise ?_) | (with_reducible refine q_keep ?_) | (with_reducible refine q_tryCatch ?_))))
  (with_unfolding_all refine q_unb ?_; (repeat (first | (with_reducible refine q_bind ?_) | (with_reducible refine q_onRaise ?_) | (with_reducible refine q_keep ?_) | (with_reducible refine q_tryCatch ?_))))
  (with_unfolding_all refine q_fresh ?_; (repeat (first | (with_reducible refine q_bind ?_) | (with_reducible refine q_onRaise ?_) | (with_reducible refine q_keep ?_) | (with_reducible refine q_tryCatch ?_))))
  (with_unfolding_all refine q_unb ?_; (repeat (first | (with_reducible refine q_bind ?_) | (with_reducible refine q_onRaise ?_) | (with_reducible refine q_keep ?_) | (with_reducible refine q_tryCatch ?_))))
  (with_unfolding_all refine q_unb ?_; (repeat (first | (with_reducible refine q_bind ?_) | (with_reducible refine q_onRaise ?_) | (with_reducible refine q_keep ?_) | (with_reducible refine q_tryCatch ?_))))
  (with_unfolding_all refine q_at ?_; (repeat (first | (with_reducible refine q_bind ?_) | (with_reducible refine q_onRaise ?_) | (with_reducible refine q_keep ?_) | (with_reducible refine q_tryCatch ?_))))
  (with_unfolding_all refine q_unb ?_; (repeat (first | (with_reducible refine q_bind ?_) | (with_reducible refine q_onRaise ?_) | (with_reducible refine q_keep ?_) | (with_reducible refine q_tryCatch ?_))))
  (with_unfolding_all refine q_ask ?_; (repeat (first | (with_reducible refine q_bind ?_) | (with_reducible refine q_onRaise ?_) | (with_reducible refine q_keep ?_) | (with_reducible refine q_tryCatch ?_))))
  (with_unfolding_all refine q_unb ?_; (repeat (first | (with_reducible refine q_bind ?_) | (with_reducible refine q_onRaise ?_) | (with_reducible refine q_keep ?_) | (with_reducible refine q_tryCatch ?_))); (with_reducible refine' q_dq ?_ ?ne; (case ne => (with_unfolding_all conv => (lhs; whnf)))))
  (with_reducible refine q_follow ?_; (repeat (first | (with_reducible refine q_bind ?_) | (with_reducible refine q_onRaise ?_) | (with_reducible refine q_keep ?_) | (with_reducible refine q_tryCatch ?_))))
  (with_unfolding_all refine q_unb ?_; (repeat (first | (with_reducible refine q_bind ?_) | (with_reducible refine q_onRaise ?_) | (with_reducible refine q_keep ?_) | (with_reducible refine q_tryCatch ?_))); (with_reducible refine' q_dq ?_ ?ne; (case ne => (with_unfolding_all conv => (lhs; whnf)))))
  (with_reducible refine q_call (Option.some_ne_none _).symm ?_; ((with_reducible refine' q_dc ?_ ?ce; (case ce => (with_unfolding_all conv => (lhs; whnf; (try dsimp only))))); (with_reducible refine q_code ?_); (repeat (first | (with_reducible refine q_bind ?_) | (with_reducible refine q_onRaise ?_) | (with_reducible refine q_keep ?_) | (with_reducible refine q_tryCatch ?_)))))
  (with_unfolding_all refine q_pure ?_)
  (with_reducible refine q_again (by kernel_rfl!) ?_; ((with_reducible refine' q_dc ?_ ?ce; (case ce => (with_unfolding_all conv => (lhs; whnf; (try dsimp only))))); (with_reducible refine q_code ?_); (repeat (first | (with_reducible refine q_bind ?_) | (with_reducible refine q_onRaise ?_) | (with_reducible refine q_keep ?_) | (with_reducible refine q_tryCatch ?_)))))
  (with_unfolding_all refine q_pure ?_)
  (with_reducible refine q_done ?_)
  (with_reducible refine q_ret ?_; (repeat (first | (with_reducible refine q_bind ?_) | (with_reducible refine q_onRaise ?_) | (with_reducible refine q_keep ?_) | (with_reducible refine q_tryCatch ?_))))
  (with_unfolding_all refine q_unb ?_; (repeat (first | (with_reducible refine q_bind ?_) | (with_reducible refine q_onRaise ?_) | (with_reducible refine q_keep ?_) | (with_reducible refine q_tryCatch ?_))))
  (with_unfolding_all refine q_unb ?_; (repeat (first | (with_reducible refine q_bind ?_) | (with_reducible refine q_onRaise ?_) | (with_reducible refine q_keep ?_) | (with_reducible refine q_tryCatch ?_))))
  (with_unfolding_all refine q_unb ?_; (repeat (first | (with_reducible refine q_bind ?_) | (with_reducible refine q_onRaise ?_) | (with_reducible refine q_keep ?_) | (with_reducible refine q_tryCatch ?_))))
  (with_unfolding_all refine q_unb ?_; (repeat (first | (with_reducible refine q_bind ?_) | (with_reducible refine q_onRaise ?_) | (with_reducible refine q_keep ?_) | (with_reducible refine q_tryCatch ?_))))
  (with_unfolding_all refine q_unb ?_; (repeat (first | (with_reducible refine q_bind ?_) | (with_reducible refine q_onRaise ?_) | (with_reducible refine q_keep ?_) | (with_reducible refine q_tryCatch ?_))))
  (with_unfolding_all refine q_unb ?_; (repeat (first | (with_reducible refine q_bind ?_) | (with_reducible refine q_onRaise ?_) | (with_reducible refine q_keep ?_) | (with_reducible refine q_tryCatch ?_))))
  (with_unfolding_all refine q_unb ?_; (repeat (first | (with_reducible refine q_bind ?_) | (with_reducible refine q_onRaise ?_) | (with_reducible refine q_keep ?_) | (with_reducible refine q_tryCatch ?_))))
  (with_unfolding_all refine q_unb ?_; (repeat (first | (with_reducible refine q_bind ?_) | (with_reducible refine q_onRaise ?_) | (with_reducible refine q_keep ?_) | (with_reducible refine q_tryCatch ?_))))
  (with_unfolding_all refine q_pure ?_)
  (with_reducible refine q_done ?_)
  (with_reducible refine p_retA ?_; (repeat (first | (with_reducible refine p_bind ?_) | (with_reducible refine p_onRaise ?_) | (with_reducible refine p_keep ?_) | (with_reducible refine p_tryCatch ?_))))
  (with_unfolding_all refine p_unb ?_; (repeat (first | (with_reducible refine p_bind ?_) | (with_reducible refine p_onRaise ?_) | (with_reducible refine p_keep ?_) | (with_reducible refine p_tryCatch ?_))))
  (with_unfolding_all refine p_unb ?_; (repeat (first | (with_reducible refine p_bind ?_) | (with_reducible refine p_onRaise ?_) | (with_reducible refine p_keep ?_) | (with_reducible refine p_tryCatch ?_))))
  (with_unfolding_all refine p_pure ?_)
  intro h D hs
  have f : ∀ b tk', b = decide (n < 0) → Q (some (Value.bool b)) ⟨h, g₀, d₀, tk', os₀⟩ := fun b tk' hb => by subst hb; exact HK _ _ _ h _ hst hl1 hp1 (Mem.stays D)
  refine f _ _ ?_
  by_cases q : n < 0
  · with_unfolding_all exact (ltI_yes q).trans (decide_eq_true q).symm
  · with_unfolding_all exact (ltI_no q).trans (decide_eq_false q).symm
end Mine
end
section
open PySem PySem.W PySem.Calls PyProof.Rows
set_option Elab.async false
set_option maxRecDepth 100000
set_option maxHeartbeats 4000000
set_option linter.unusedVariables false
namespace Mine
noncomputable def cmpL : List Int → List Int → Int
  | [], [] => 0
  | [], _ :: _ => -1
  | _ :: _, [] => 1
  | a :: _, b :: _ => if a < b then -1 else if b < a then 1 else 0
section
variable {vs us : List Value} {xs ys : List Int} {l b : Addr} {n n2 : Nat}
theorem lt_loop1 (hv : vs.length = 1) (hu : us.length = 1) : Meets (Builtin.«list.__eq__.loop» ⟨[.ref l, .ref b, rawInt 1, rawInt 0], []⟩)
      (fun A R s => s.heap.get? l = some (W.listOf vs.toArray n) ∧ s.heap.get? b = some (W.listOf us.toArray n2) ∧ R (.ok (.ret (.bool false))) s) := by
  intro prog w A R s h
  obtain ⟨hp, g, d, tk, os⟩ := s; obtain ⟨hl, hb, h⟩ := h
  unfold W.listOf at hl hb
  wp_walk using AutoSeq1.wpAny_loadPart' hl, AutoSeq1.wpAny_loadPart' hb
  have e1 : vs.toArray[Int.toNat 1]? = none := by simp; omega
  rw [e1]
  wp_walk using AutoSeq1.wpAny_loadPart' hl, AutoSeq1.wpAny_loadPart' hb
  show R (.ok (.ret (.bool (decide (vs.toArray.size < us.toArray.size))))) _
  rw [List.size_toArray, List.size_toArray, hv, hu]
  exact h
theorem lt_loop0 (ix : IntsAre vs xs) (iy : IntsAre us ys) (lx : xs.length ≤ 1) (ly : ys.length ≤ 1) : Meets (Builtin.«list.__eq__.loop» ⟨[.ref l, .ref b, rawInt 0, rawInt 0], []⟩)
      (fun A R s => s.heap.get? l = some (W.listOf vs.toArray n) ∧ s.heap.get? b = some (W.listOf us.toArray n2) ∧ R (.ok (.ret (.bool (decide (cmpL xs ys < 0))))) s) := by
  intro prog w A R s h
  obtain ⟨hp, g, d, tk, os⟩ := s; obtain ⟨hl, hb, h⟩ := h
  unfold W.listOf at hl hb
  wp_walk using AutoSeq1.wpAny_loadPart' hl, AutoSeq1.wpAny_loadPart' hb
  cases ix with
  | nil =>
    show wpAny _ _ (do let a ← Builtin.List.listItems (.ref l); let c ← Builtin.List.listItems (.ref b); ret (.bool (decide (a.size < c.size)))) _ _ _
    wp_walk using AutoSeq1.wpAny_loadPart' hl, AutoSeq1.wpAny_loadPart' hb
    cases iy with
    | nil => exact h
    | cons y u iy => exact h
  | cons x t ix =>
    have := ix.length
    cases iy with
    | nil =>
      show wpAny _ _ (do let a ← Builtin.List.listItems (.ref l); let c ← Builtin.List.listItems (.ref b); ret (.bool (decide (a.size < c.size)))) _ _ _
      wp_walk using AutoSeq1.wpAny_loadPart' hl, AutoSeq1.wpAny_loadPart' hb
      cases ix with
      | cons => simp at lx
      | nil => exact h
    | cons y u iy =>
      cases ix with
      | cons => simp at lx
      | nil =>
      cases iy with
      | cons => simp at ly
      | nil =>
      refine wpAny_bind (SeqAt.EqAt.int_int x t y u prog w _ _ ?_)
      cases hxy : x == y with
      | true =>
        obtain rfl : x = y := by simpa using hxy
        rw [if_pos rfl]
        have e0 : cmpL [x] [x] = 0 := by simp [cmpL]
        rw [e0] at h
        exact wpAny_pure ⟨plainId_quiet MeetsSeq3.plain_eq_loop _, codeAny_builtin MeetsSeq3.entry_eq_loop (by
          rw [Around.under_plainId MeetsSeq3.plain_eq_loop _]
          exact lt_loop1 (n := n) (n2 := n2) (vs := [.int x t]) (us := [.int x u]) rfl rfl prog w A R _ ⟨hl, hb, h⟩)⟩
      | false =>
        rw [if_neg (by decide)]
        refine wpAny_bind (listItems_at hl rfl ?_)
        refine wpAny_bind (listItems_at hb rfl ?_)
        show wpAny _ _ (do let r ← compareOp .Lt (.int x t) (.int y u); ret r) _ _ _
        refine wpAny_bind (lt_int ?_)
        refine wpAny_pure ?_
        have hne : x ≠ y := by simpa using hxy
        have e0 : decide (x < y) = decide (cmpL [x] [y] < 0) := by
          show _ = decide ((if x < y then (-1 : Int) else if y < x then 1 else 0) < 0)
          split
          · exact decide_eq_decide.mpr (by omega)
          · split
            · exact decide_eq_decide.mpr (by omega)
            · omega
        exact e0 ▸ h
theorem gt_loop1 (hv : vs.length = 1) (hu : us.length = 1) : Meets (Builtin.«list.__eq__.loop» ⟨[.ref l, .ref b, rawInt 1, rawInt 4], []⟩)
      (fun A R s => s.heap.get? l = some (W.listOf vs.toArray n) ∧ s.heap.get? b = some (W.listOf us.toArray n2) ∧ R (.ok (.ret (.bool false))) s) := by
  intro prog w A R s h
  obtain ⟨hp, g, d, tk, os⟩ := s; obtain ⟨hl, hb, h⟩ := h
  unfold W.listOf at hl hb
  wp_walk using AutoSeq1.wpAny_loadPart' hl, AutoSeq1.wpAny_loadPart' hb
  have e1 : vs.toArray[Int.toNat 1]? = none := by simp; omega
  rw [e1]
  wp_walk using AutoSeq1.wpAny_loadPart' hl, AutoSeq1.wpAny_loadPart' hb
  show R (.ok (.ret (.bool (decide (vs.toArray.size > us.toArray.size))))) _
  rw [List.size_toArray, List.size_toArray, hv, hu]
  exact h
theorem gt_loop0 (ix : IntsAre vs xs) (iy : IntsAre us ys) (lx : xs.length ≤ 1) (ly : ys.length ≤ 1) : Meets (Builtin.«list.__eq__.loop» ⟨[.ref l, .ref b, rawInt 0, rawInt 4], []⟩)
      (fun A R s => s.heap.get? l = some (W.listOf vs.toArray n) ∧ s.heap.get? b = some (W.listOf us.toArray n2) ∧ R (.ok (.ret (.bool (decide (cmpL xs ys > 0))))) s) := by
  intro prog w A R s h
  obtain ⟨hp, g, d, tk, os⟩ := s; obtain ⟨hl, hb, h⟩ := h
  unfold W.listOf at hl hb
  wp_walk using AutoSeq1.wpAny_loadPart' hl, AutoSeq1.wpAny_loadPart' hb
  cases ix with
  | nil =>
    show wpAny _ _ (do let a ← Builtin.List.listItems (.ref l); let c ← Builtin.List.listItems (.ref b); ret (.bool (decide (a.size > c.size)))) _ _ _
    wp_walk using AutoSeq1.wpAny_loadPart' hl, AutoSeq1.wpAny_loadPart' hb
    cases iy with
    | nil => exact h
    | cons y u iy => exact h
  | cons x t ix =>
    have := ix.length
    cases iy with
    | nil =>
      show wpAny _ _ (do let a ← Builtin.List.listItems (.ref l); let c ← Builtin.List.listItems (.ref b); ret (.bool (decide (a.size > c.size)))) _ _ _
      wp_walk using AutoSeq1.wpAny_loadPart' hl, AutoSeq1.wpAny_loadPart' hb
      cases ix with
      | cons => simp at lx
      | nil => exact h
    | cons y u iy =>
      cases ix with
      | cons => simp at lx
      | nil =>
      cases iy with
      | cons => simp at ly
      | nil =>
      refine wpAny_bind (SeqAt.EqAt.int_int x t y u prog w _ _ ?_)
      cases hxy : x == y with
      | true =>
        obtain rfl : x = y := by simpa using hxy
        rw [if_pos rfl]
        have e0 : cmpL [x] [x] = 0 := by simp [cmpL]
        rw [e0] at h
        exact wpAny_pure ⟨plainId_quiet MeetsSeq3.plain_eq_loop _, codeAny_builtin MeetsSeq3.entry_eq_loop (by
          rw [Around.under_plainId MeetsSeq3.plain_eq_loop _]
          exact gt_loop1 (n := n) (n2 := n2) (vs := [.int x t]) (us := [.int x u]) rfl rfl prog w A R _ ⟨hl, hb, h⟩)⟩
      | false =>
        rw [if_neg (by decide)]
        refine wpAny_bind (listItems_at hl rfl ?_)
        refine wpAny_bind (listItems_at hb rfl ?_)
        show wpAny _ _ (do let r ← compareOp .Gt (.int x t) (.int y u); ret r) _ _ _
        refine wpAny_bind (gt_int ?_)
        refine wpAny_pure ?_
        have hne : x ≠ y := by simpa using hxy
        have e0 : decide (x > y) = decide (cmpL [x] [y] > 0) := by
          show _ = decide ((if x < y then (-1 : Int) else if y < x then 1 else 0) > 0)
          split
          · exact decide_eq_decide.mpr (by omega)
          · split
            · exact decide_eq_decide.mpr (by omega)
            · omega
        exact e0 ▸ h
theorem lt_list (ix : IntsAre vs xs) (iy : IntsAre us ys) (lx : xs.length ≤ 1) (ly : ys.length ≤ 1) {prog : Program} {w : World} {A : Around} {E : Value → Shared → Prop} {s : Shared} {Q : Value → Shared → Prop} (hl : s.heap.get? l = some (W.listOf vs.toArray n)) (hb : s.heap.get? b = some (W.listOf us.toArray n2)) (hu : A.units < cLine)
    (h : Q (.bool (decide (cmpL xs ys < 0))) s) : wpAny (model prog w) A (compareOp .Lt (.ref l) (.ref b)) Q E s := by
  show wpAny (model prog w) A (richCompare .Lt (.ref l) (.ref b)) Q E s
  refine richCompare_meets_room (T := "list") (id := "list.__lt__") (B := Builtin.«list.__lt__») (S := fun A R s => s.heap.get? l = some (W.listOf vs.toArray n) ∧ s.heap.get? b = some (W.listOf us.toArray n2) ∧ R (.ok (.ret (.bool (decide (cmpL xs ys < 0))))) s) ⟨_, hl, rfl⟩ ⟨_, hb, rfl⟩ F.slot_list_lt F.entry_list_lt (F.args_list_lt_2 _ _) ?_ ⟨hl, hb, ⟨(by intro e; cases e), h⟩⟩ hu
  intro prog w A R s h
  obtain ⟨hp, g, d, tk, os⟩ := s; obtain ⟨hl, hb, h⟩ := h
  have hl' := hl
  have hb' := hb
  unfold W.listOf at hl' hb'
  have f3 := AutoSeq1.sub_list_list
  wp_walk using AutoSeq1.wpAny_loadPart' hl', AutoSeq1.wpAny_loadPart' hb'
  exact ⟨plainId_quiet MeetsSeq3.plain_eq_loop _, codeAny_builtin MeetsSeq3.entry_eq_loop (by
    rw [Around.under_plainId MeetsSeq3.plain_eq_loop _]
    exact lt_loop0 ix iy lx ly prog w A R _ ⟨hl, hb, h⟩)⟩
theorem gt_list (ix : IntsAre vs xs) (iy : IntsAre us ys) (lx : xs.length ≤ 1) (ly : ys.length ≤ 1) {prog : Program} {w : World} {A : Around} {E : Value → Shared → Prop} {s : Shared} {Q : Value → Shared → Prop} (hl : s.heap.get? l = some (W.listOf vs.toArray n)) (hb : s.heap.get? b = some (W.listOf us.toArray n2)) (hu : A.units < cLine)
    (h : Q (.bool (decide (cmpL xs ys > 0))) s) : wpAny (model prog w) A (compareOp .Gt (.ref l) (.ref b)) Q E s := by
  show wpAny (model prog w) A (richCompare .Gt (.ref l) (.ref b)) Q E s
  refine richCompare_meets_room (T := "list") (id := "list.__gt__") (B := Builtin.«list.__gt__») (S := fun A R s => s.heap.get? l = some (W.listOf vs.toArray n) ∧ s.heap.get? b = some (W.listOf us.toArray n2) ∧ R (.ok (.ret (.bool (decide (cmpL xs ys > 0))))) s) ⟨_, hl, rfl⟩ ⟨_, hb, rfl⟩ F.slot_list_gt F.entry_list_gt (F.args_list_gt_2 _ _) ?_ ⟨hl, hb, ⟨(by intro e; cases e), h⟩⟩ hu
  intro prog w A R s h
  obtain ⟨hp, g, d, tk, os⟩ := s; obtain ⟨hl, hb, h⟩ := h
  have hl' := hl
  have hb' := hb
  unfold W.listOf at hl' hb'
  have f3 := AutoSeq1.sub_list_list
  wp_walk using AutoSeq1.wpAny_loadPart' hl', AutoSeq1.wpAny_loadPart' hb'
  exact ⟨plainId_quiet MeetsSeq3.plain_eq_loop _, codeAny_builtin MeetsSeq3.entry_eq_loop (by
    rw [Around.under_plainId MeetsSeq3.plain_eq_loop _]
    exact gt_loop0 ix iy lx ly prog w A R _ ⟨hl, hb, h⟩)⟩
end
end Mine
end
section
open PySem PySem.W PySem.Calls PyProof.Rows
set_option Elab.async false
set_option maxRecDepth 100000
set_option maxHeartbeats 4000000
set_option linter.unusedVariables false
set_option linter.unusedSimpArgs false
namespace Mine

theorem cmpL_three : ∀ (xs ys : List Int), cmpL xs ys = -1 ∨ cmpL xs ys = 0 ∨ cmpL xs ys = 1
  | [], [] => .inr (.inl rfl)
  | [], _ :: _ => .inl rfl
  | _ :: _, [] => .inr (.inr rfl)
  | a :: _, b :: _ => by
    show (if a < b then (-1 : Int) else if b < a then 1 else 0) = -1 ∨ _ = 0 ∨ _ = 1
    simp only [cmpL]
    split
    · exact .inl rfl
    · split
      · exact .inr (.inr rfl)
      · exact .inr (.inl rfl)
theorem tw_spec {w : World} {A : Around} {s : Shared} {base : Heap} {outer : List Env} {p : Program} {loose : List Str} {mean : ExcName → Option Value} {mg mb : Str → Option Value} {Q E : Value → Shared → Prop} {x y : Addr} {n1 n2 : Nat} {vs us : List Value} {xs ys : List Int} (B : Below A base outer s.heap) (XB : (KK w).In base) (TB : Top p loose mean mg mb base) (hd : A.depth < recursionLimit) (hu : A.units + 20 < cLine) (hu2 : A.units + 60 < cLine)
   (hx : s.heap.get? x = some (W.listOf vs.toArray n1)) (hy : s.heap.get? y = some (W.listOf us.toArray n2)) (ix : IntsAre vs xs) (iy : IntsAre us ys) (lx : xs.length ≤ 1) (ly : ys.length ≤ 1)
   (k : ∀ h' tk n u, s.heap.StaysIn h' → n = cmpL xs ys → Q (.int n u) { s with heap := h', toks := tk }) :
   wpAny (model PR w) A (call (.ref 28) [.ref x, .ref y]) Q E s := by
  unfold KK PR at *
  revert XB; k_fill; intro XB
  have X := XB.keeps B.stays
  have T := TB.keeps B.stays
  refine wpAny_call ?_
  k_dflt (refine' enter ?k3 ?k5 ?k6 ?k7 ?k8 ?k9 ?kB ?_ ?c5 ?c2 ?c3 ?c4; (case k3 => exact X); (case k5 => exact T.nolimit); (case k6 => k_is); (case k7 => k_is); (case k8 => assumption); (case k9 => exact BindsTo.of_eq rfl); (case c5 => decide); (case kB => exact locs rfl); (case c2 => exact rfl); (case c3 => exact rfl); (case c4 => exact rfl); k_whole; intro L' h' F' N'; (try dsimp only))

  repeat ((fail_if_success (with_reducible show wpAny _ _ (compareOp _ _ _) _ _ _)); (first | (k_unfold; (try dsimp only)) | walk1 | (dsimp only; walk1)))
  refine gt_list ix iy lx ly (F'.keep _ _ hx) (F'.keep _ _ hy) (by show A.units + 3 < _; omega) ?_
  repeat ((fail_if_success (with_reducible show wpAny _ _ (compareOp _ _ _) _ _ _)); (first | (k_unfold; (try dsimp only)) | walk1 | (dsimp only; walk1)))
  refine lt_list ix iy lx ly (F'.keep _ _ hx) (F'.keep _ _ hy) (by show A.units + 3 < _; omega) ?_
  repeat ((fail_if_success (with_reducible show Q _ _)); (first | (k_unfold; (try dsimp only)) | walk1 | (dsimp only; walk1)))
  dsimp only
  refine k _ _ _ _ F'.keep ?_
  have h3 := cmpL_three xs ys
  unfold b2i
  rcases h3 with h | h | h <;> rw [h] <;> rfl
end Mine
end
section
open PySem PySem.W PySem.Calls PyProof.Rows
set_option Elab.async false
set_option maxRecDepth 100000
set_option maxHeartbeats 4000000
set_option linter.unusedVariables false
set_option linter.unusedSimpArgs false
namespace Mine

section
variable {prog : Program} {w : World} {A : Around} {E : Value → Shared → Prop} {s : Shared} {h₀ : Heap} {L l : Addr} {m : Str → Option Value} {news : List (Addr × Obj)} {value slice : PySem.Expr} {vs : List Value} {ns : List Int} {vl vu : Value} {lo hi : Option Int} {Q : Value → Shared → Prop}
theorem slice_any {ms : List Int} (F : Fr h₀ L s.heap m) (N : News h₀ L s.heap news) (hl : s.heap.IsList l vs.toArray) (pl : IsPart vl lo) (pu : IsPart vu hi) (hm : IntsAre (slicePick vs.toArray lo hi none).toList ms)
    (h : ∀ D ws h', Fr h₀ L h' m → News h₀ L h' ((D, listOf (List.toArray ws) 0) :: news) → (∀ p ∈ news, p.1 < D) → IntsAre ws ms → Q (.ref D) { s with heap := h' })
    (hs : subscripted slice false (.ref l) (.ref s.heap.objs.size) = operate [.ref s.heap.objs.size, .ref l] (getItem (.ref l) (.ref s.heap.objs.size))) (hz : vs.toArray.size ≤ sizeLine) :
    wpAny (model prog w) A (subscriptTail value slice (.ref l) (.ref s.heap.objs.size)) Q E { s with heap := s.heap.push { cls := .type "slice", data := .fields #[vl, vu, .none] } } := by
  refine tail_any (Heap.IsList.typeIs (s := { s with heap := s.heap.push { cls := .type "slice", data := .fields #[vl, vu, .none] } }) (hl.push _)) list_getitem_lookup
    (wpAny_getItem_list_slice (hl.push _) (Heap.IsSliceOf.new ..) pl pu .none (by simp) ?_ hz) hs
  have N1 := News.push (F.push { cls := .type "slice", data := .fields #[vl, vu, .none] }) (N.grown fun _ _ e => Heap.get?_push_of_some _ e) { cls := .type "list", data := .seq (slicePick vs.toArray lo hi none) }
  rw [Heap.size_push] at N1
  show Q (.ref (s.heap.push _).objs.size) _
  rw [Heap.size_push]
  refine h _ (slicePick vs.toArray lo hi none).toList _ ((F.push _).push _) ?_ (fun p hp => Nat.lt_succ_of_lt (Heap.lt_size (N p hp).1)) hm
  rw [Array.toArray_toList]
  exact N1
end
theorem cmp_spec {w : World} {A : Around} {s : Shared} {base : Heap} {outer : List Env} {p : Program} {loose : List Str} {mean : ExcName → Option Value} {mg mb : Str → Option Value} {Q E : Value → Shared → Prop} {q l1 l2 : Addr} {vs1 vs2 : List Value} {xs ys : List Int} (B : Below A base outer s.heap) (XB : (KK w).In base) (TB : Top p loose mean mg mb base) (hd : A.depth < recursionLimit) (hu : A.units + 20 < cLine) (hdp : A.depth + 200 < recursionLimit) (hun : A.units + 300 < cLine)
   (hq : s.heap.get? q = some { cls := .type "tuple", data := .seq #[.ref l1, .ref l2] })
   (hx : s.heap.IsList l1 vs1.toArray) (hy : s.heap.IsList l2 vs2.toArray) (ix : IntsAre vs1 xs) (iy : IntsAre vs2 ys) (lx : xs.length ≤ 100) (ly : ys.length ≤ 100)
   (k : ∀ h' tk n u, s.heap.StaysIn h' → n = cmpL (xs.drop (xs.length - 1)) (ys.drop (ys.length - 1)) → Q (.int n u) { s with heap := h', toks := tk }) :
   wpAny (model PR w) A (call (.ref 91) [.ref q]) Q E s := by
  have hl1 := IntsAre.length ix
  have hl2 := IntsAre.length iy
  unfold KK PR at *
  revert XB; k_fill; intro XB
  have X := XB.keeps B.stays
  have T := TB.keeps B.stays
  refine wpAny_call ?_
  k_dflt (refine' enter ?k3 ?k5 ?k6 ?k7 ?k8 ?k9 ?kB ?_ ?c5 ?c2 ?c3 ?c4; (case k3 => exact X); (case k5 => exact T.nolimit); (case k6 => k_is); (case k7 => k_is); (case k8 => assumption); (case k9 => exact BindsTo.of_eq rfl); (case c5 => decide); (case kB => exact locs rfl); (case c2 => exact rfl); (case c3 => exact rfl); (case c4 => exact rfl); k_whole; intro L' h' F' N'; (try dsimp only))
  iterate 11 (first | (k_unfold; (try dsimp only)) | walk1 | (dsimp only; walk1))
  refine item_tupleT (j := 0) (x := .ref l1) (l := [.ref l1, .ref l2]) ⟨_, F'.keep _ _ hq, rfl, _, rfl⟩ (by decide) (by decide) rfl rfl ?_
  repeat ((fail_if_success (with_reducible show wpAny _ _ (subscriptTail _ (PySem.Expr.Slice _ _ none _) _ _) _ _ _)); (first | (k_unfold; (try dsimp only)) | walk1 | (dsimp only; walk1)))
  (k_dflt (refine' slice_any ?zaF ?zaN ?zal ?zap ?zaq ?zam ?_ ?zas ?zaz; (case zaF => k_asm); (case zaN => k_asm); (case zal => exact Fr.lst (by k_asm) (by with_reducible assumption)); (case zap => kmk_part); (case zaq => kmk_part); (case zam => exact kmk_from_neg (by assumption) (by decide)); (case zas => with_unfolding_all rfl); (case zaz => (simp only [List.size_toArray, hl1, hl2, sizeLine]; omega))); intro D' ws' h' F' N' l1' hI')
  repeat ((fail_if_success (with_reducible show wpAny _ _ (subscriptTail _ _ (Value.ref q) _) _ _ _)); (first | (k_unfold; (try dsimp only)) | walk1 | (dsimp only; walk1)))
  refine item_tupleT (j := 1) (x := .ref l2) (l := [.ref l1, .ref l2]) ⟨_, F'.keep _ _ hq, rfl, _, rfl⟩ (by decide) (by decide) rfl rfl ?_
  repeat ((fail_if_success (with_reducible show wpAny _ _ (subscriptTail _ (PySem.Expr.Slice _ _ none _) _ _) _ _ _)); (first | (k_unfold; (try dsimp only)) | walk1 | (dsimp only; walk1)))
  (k_dflt (refine' slice_any ?zbF ?zbN ?zbl ?zbp ?zbq ?zbm ?_ ?zbs ?zbz; (case zbF => k_asm); (case zbN => k_asm); (case zbl => exact Fr.lst (by k_asm) (by with_reducible assumption)); (case zbp => kmk_part); (case zbq => kmk_part); (case zbm => exact kmk_from_neg (by assumption) (by decide)); (case zbs => with_unfolding_all rfl); (case zbz => (simp only [List.size_toArray, hl1, hl2, sizeLine]; omega))); intro D' ws' h' F' N' l1' hI')
  repeat ((fail_if_success (with_reducible show wpAny _ _ (call (Value.ref 28) _) _ _ _)); (first | (k_unfold; (try dsimp only)) | walk1 | (dsimp only; walk1)))
  rename Fr _ _ _ _ => Fz
  rename News _ _ _ _ => Nz
  rename IntsAre _ (List.drop (ys.length - _) ys) => J2
  rename IntsAre _ (List.drop (xs.length - _) xs) => J1
  refine tw_spec (pushX B Fz rfl rfl) XB TB ?d1 ?d2 ?d5 (Nz _ (.tail _ (.head _))).1 (Nz _ (.head _)).1 J1 J2 ?d3 ?d4 ?_
  case d1 => show A.depth + 1 < _; omega
  case d2 => show A.units + 3 + 20 < _; omega
  case d5 => show A.units + 3 + 60 < _; omega
  case d3 => simp only [List.length_drop]; omega
  case d4 => simp only [List.length_drop]; omega
  intro h₂ tk₂ n u st hn
  exact k _ _ _ _ (fun b o e => st _ _ (Fz.keep _ _ e)) hn
end Mine
end
section
open PySem PySem.W PySem.Calls PyProof.Rows
set_option Elab.async false
set_option maxRecDepth 100000
set_option maxHeartbeats 4000000
namespace Mine

theorem iter_any {prog : Program} {w : World} {A : Around} {E : Value → Shared → Prop} {s : Shared} {x : Value} {Q : Value → Shared → Prop} (h : ∀ A' E', A'.handled = A.handled → wpAny (model prog w) A' (pyIter x) Q E' s) :
    wpAny (model prog w) A (call (.builtin "iter") [x]) Q E s := by
  refine call_function_entry (by decide +kernel) (by decide +kernel) kdk_entry_iter (kdk_args_iter _) ?_
  unfold Builtin.«iter»
  refine wpAny_bind (m := someArgs "iter" 1 2 _) (wpAny_of_eq (a := [x]) (by first | rfl | kernel_rfl!) ?_)
  show wpAny _ _ (pyIter x >>= _) _ _ _
  refine wpAny_bind (wpAny_mono (h _ _ rfl) (fun v s' hq => wpAny_pure ⟨v, rfl, hq⟩) fun _ _ e => e)
theorem iter_list {prog : Program} {w : World} {A : Around} {E : Value → Shared → Prop} {s : Shared} {l L : Addr} {its : Array Value} {h₀ : Heap} {m : Str → Option Value} {news : List (Addr × Obj)} {Q : Value → Shared → Prop} (F : Fr h₀ L s.heap m) (N : News h₀ L s.heap news) (hl : s.heap.IsList l its)
    (h : ∀ I h', Fr h₀ L h' m → News h₀ L h' ((I, { cls := .type "list_iterator", data := .fields #[.ref l, .int 0 0] }) :: news) → l < I → Q (.ref I) { s with heap := h' }) :
    wpAny (model prog w) A (call (.builtin "iter") [.ref l]) Q E s :=
  iter_any fun A' E' hA' => wpAny_pyIter_list hl (h _ _ (F.push _) (News.push F N _ rfl) (by obtain ⟨o, ho, _⟩ := hl; exact Heap.lt_size ho))
theorem iter_range {prog : Program} {w : World} {A : Around} {E : Value → Shared → Prop} {s : Shared} {l L : Addr} {a b c : Int} {t u v : Tok} {h₀ : Heap} {m : Str → Option Value} {news : List (Addr × Obj)} {Q : Value → Shared → Prop} (F : Fr h₀ L s.heap m) (N : News h₀ L s.heap news) (hl : IsRange s.heap l a b c t u v) (hs : Builtin.Range.small a b c = true)
    (h : ∀ I h', Fr h₀ L h' m → News h₀ L h' ((I, { cls := .type "range_iterator", data := .fields #[rawInt a, rawInt (Builtin.Range.rangeSize a b c), rawInt c] }) :: news) → Q (.ref I) { s with heap := h' }) :
    wpAny (model prog w) A (call (.builtin "iter") [.ref l]) Q E s :=
  iter_any fun A' E' hA' => wpAny_pyIter_range hl hs (h _ _ (F.push _) (News.push F N _ rfl))
theorem range_size {n : Nat} : Builtin.Range.rangeSize 0 (n : Int) 1 = (n : Int) := by
  unfold Builtin.Range.rangeSize
  simp
  try omega
theorem small_range {n : Nat} (h : n ≤ 100) : Builtin.Range.small 0 (n : Int) 1 = true := by
  unfold Builtin.Range.small
  rw [range_size]
  unfold Builtin.Range.rangeFitsLong
  simp
  omega
noncomputable abbrev LMr (f : Addr) (I : Addr) (v : Value) (r : Str → Option Value) : Str → Option Value := fun n =>
  if n = Str.ofString "value" then some v else if n = Str.ofString "function" then some (.ref f) else if n = Str.ofString "it" then some (.ref I) else r n
theorem Fr.lmr {h₀ h : Heap} {L f I : Addr} {v : Value} {m : Str → Option Value} (F : Fr h₀ L h m) (e1 : m (Str.ofString "value") = some v) (e2 : m (Str.ofString "function") = some (.ref f)) (e3 : m (Str.ofString "it") = some (.ref I)) : Fr h₀ L h (LMr f I v m) := by
  have e : LMr f I v m = m := by
    funext n
    by_cases h1 : n = Str.ofString "value"
    · subst h1; rw [e1]; exact if_pos rfl
    · by_cases h2 : n = Str.ofString "function"
      · subst h2; rw [e2]; exact (if_neg h1).trans (if_pos rfl)
      · by_cases h3 : n = Str.ofString "it"
        · subst h3; rw [e3]; exact (if_neg h1).trans ((if_neg h2).trans (if_pos rfl))
        · exact (if_neg h1).trans ((if_neg h2).trans (if_neg h3))
  rw [e]; exact F
theorem reduce_list {w : World} {A : Around} {s : Shared} {base : Heap} {outer : List Env} {p : Program} {loose : List Str} {mean : ExcName → Option Value} {mg mb : Str → Option Value} {Q E : Value → Shared → Prop} {f l : Addr} {v₀ : Value} {vs : List Value} (B : Below A base outer s.heap) (XB : (KK w).In base) (TB : Top p loose mean mg mb base) (hd : A.depth < recursionLimit) (hu : A.units + 20 < cLine) (hu2 : A.units + 60 < cLine) {fo : Obj} {fd : FuncData} (hf : s.heap.get? f = some fo) (hfd : fo.data = .func fd) (hA : A.handled = none) (hz : vs.length ≤ 100)
   (hl : s.heap.IsList l vs.toArray) (V : Nat → Value → List (Addr × Obj) → Prop) (h0 : V 0 v₀ [])
   (his : ∀ (M : Model) A' E' s' (Q' : Value → Shared → Prop), s.heap.StaysIn s'.heap → Q' (.bool false) s' → wpAny M A' (compareOp .Is v₀ (.ref 36)) Q' E' s')
   (HF : ∀ i v x news h tk A', A'.depth = A.depth + 1 → A'.units < A.units + 20 → A'.handled = none → V i v news → (∀ p ∈ news, h.get? p.1 = some p.2) → s.heap.StaysIn h → vs[i]? = some x → ∀ Q' E',
      (∀ v' news' h' tk', V (i + 1) v' news' → h.StaysIn h' → (∀ p ∈ news', h'.get? p.1 = some p.2 ∧ h.get? p.1 = none) → Q' v' { s with heap := h', toks := tk' }) → wpAny (model PR w) A' (call (.ref f) [v, x]) Q' E' { s with heap := h, toks := tk })
   (k : ∀ v news h' tk, V vs.length v news → s.heap.StaysIn h' → (∀ p ∈ news, h'.get? p.1 = some p.2 ∧ s.heap.get? p.1 = none) → Q v { s with heap := h', toks := tk }) :
   wpAny (model PR w) A (call (.ref 44) [.ref f, .ref l, v₀]) Q E s := by
  unfold KK PR at *
  revert XB; k_fill; intro XB
  have X := XB.keeps B.stays
  have T := TB.keeps B.stays
  refine wpAny_call ?_
  k_dflt (refine' enter (binds := [(Str.ofString "function", .ref f), (Str.ofString "sequence", .ref l), (Str.ofString "initial", v₀)]) ?k3 ?k5 ?k6 ?k7 ?k8 ?k9 ?kB ?_ ?c5 ?c2 ?c3 ?c4; (case k3 => exact X); (case k5 => exact T.nolimit); (case k6 => k_is); (case k7 => k_is); (case k8 => assumption); (case k9 => exact binds_K X rfl (by k_is) rfl rfl rfl); (case c5 => decide); (case kB => exact locs rfl); (case c2 => exact rfl); (case c3 => exact rfl); (case c4 => exact rfl); k_whole; intro L' h' F' N'; (try dsimp only))
  repeat ((fail_if_success (with_reducible show wpAny _ _ (call (.builtin _) _) _ _ _)); (first | (k_unfold; (try dsimp only)) | walk1 | (dsimp only; walk1)))
  refine iter_list F' N' (F'.lst hl) fun I h₁ F₁ N₁ hI => ?_
  repeat ((fail_if_success (with_reducible show wpAny _ _ (compareOp _ _ _) _ _ _)); (first | (k_unfold; (try dsimp only)) | walk1 | (dsimp only; walk1)))
  rename Fr _ _ _ _ => Fz
  refine his _ _ _ _ _ Fz.keep ?_
  repeat ((fail_if_success (with_reducible show wpAny _ _ (exec (Stmt.For _ _ _ _ _) _) _ _ _)); (first | (k_unfold; (try dsimp only)) | walk1 | (dsimp only; walk1)))
  rename Fr _ _ _ _ => Fy
  rename News _ _ _ _ => Ny
  with_unfolding_all refine For_invV s.heap rfl rfl (nameX_L Fy rfl ?_) (by intro _; rfl) ?_
  · refine wpAny_pyIter_listiter (l := l) (i := 0) ⟨_, (Ny _ (.head _)).1, rfl, rfl⟩ ?_
    have hlI : l ≠ I := Nat.ne_of_lt hI
    have hIn : s.heap.get? I = none := (Ny _ (.head _)).2.2
    have hLI : L' ≠ I := fun e => (Ny _ (.head _)).2.1 e.symm
    have hLl : L' ≠ l := by
      obtain ⟨o, ho, _⟩ := hl
      exact Nat.ne_of_gt (Nat.lt_of_lt_of_le (Heap.lt_size ho) Fy.above)
    refine loopAt I ([I, l]) ([I]) (vs.toArray.size) _ _ _ ([]) ((fun i m news => ∃ v r, m = LMr f I v r ∧ V i v news)) rfl (Walks.list (show (A.deeper _).handled = none from hA) I l hlI vs.toArray) ?_ ?_ ?_ (⟨⟨_, (Ny _ (.head _)).1, rfl, rfl⟩, Fy.lst hl⟩) (Fr.lmr (f := f) (I := I) (v := v₀) Fy rfl rfl rfl) (News.nil) (⟨_, _, rfl, h0⟩) ?_ ?_
    · intro hm
      simp only [List.mem_cons, List.not_mem_nil, or_false] at hm
      rcases hm with e | e
      · exact hLI e
      · exact hLl e
    · intro b hb
      rw [List.mem_singleton.mp hb]
      exact hIn
    · intro p hp; cases hp
    · rintro i v m₁ news₁ s₁ own ⟨h₂, tk₂, rfl⟩ hi hP ⟨v₁, r, rfl, hV⟩ hnw hown hown2 hown3 hst F₂ N₂
      repeat ((fail_if_success (with_reducible show wpAny _ _ (callWith _ (Value.ref f) _ _ _) _ _ _)); (first | (k_unfold; (try dsimp only)) | walk1 | (dsimp only; walk1)))
      refine callWith_def hfd ?_
      repeat ((fail_if_success (with_reducible show wpAny _ _ (call (Value.ref f) _) _ _ _)); (first | (k_unfold; (try dsimp only)) | walk1 | (dsimp only; walk1)))
      rename Fr _ _ _ _ => F₃
      rename News _ _ _ _ => N₃
      refine HF i v₁ v news₁ _ _ (A.deeper _) rfl (by show A.units + 3 < _; omega) hA hV (fun p hp => (N₃ p (List.mem_append_right _ hp)).1) F₃.keep (by simpa using hP) _ _ fun v' news' h₄ tk₄ hV' st nw => ?_
      have F₄ : Fr s.heap L' h₄ _ := F₃.keeps st
      have N₄ : News s.heap L' h₄ (own ++ news') := by
        intro p hp
        rcases List.mem_append.mp hp with q | q
        · exact ⟨st _ _ (N₃ p (List.mem_append_left _ q)).1, (N₃ p (List.mem_append_left _ q)).2⟩
        · refine ⟨(nw p q).1, fun e => ?_, ?_⟩
          · obtain ⟨o, es, ep, ho, _⟩ := F₃.ns
            have z : h₂.get? L' = some o := ho
            have y := (nw p q).2
            rw [e] at y
            have y' : h₂.get? L' = none := y
            rw [z] at y'; cases y'
          · cases e : s.heap.get? p.1 with
            | none => rfl
            | some o =>
              have := (nw p q).2
              rw [F₃.keep _ _ e] at this; cases this
      have hw₄ : ∀ p ∈ news', p.1 ∉ [I] := by
        intro p hp hm
        rw [List.mem_singleton] at hm
        obtain ⟨⟨oI, hoI, _⟩, _⟩ := hst
        have q := (N₃ _ (List.mem_append_left _ (hown3 I (.head _) hIn oI hoI))).1
        have := (nw p hp).2
        rw [hm] at this
        rw [this] at q; cases q
      clear F₃ N₃
      repeat (first | (k_unfold; (try dsimp only)) | walk1 | (dsimp only; walk1))
      rename Fr _ _ _ _ => F₅
      rename News _ _ _ _ => N₅
      exact LoopStepU.intro (Fr.lmr (f := f) (I := I) (v := v') F₅ rfl rfl rfl) N₅ hw₄ ⟨_, _, rfl, hV'⟩
    · rintro h₂ tk₂ m₂ news₂ F₂ N₂ hnw ⟨v₁, r, rfl, hV⟩
      repeat (first | (k_unfold; (try dsimp only)) | walk1 | (dsimp only; walk1))
      rename Fr _ _ _ _ => F₃
      exact k v₁ news₂ _ _ (by simpa using hV) F₃.keep (fun p hp => ⟨(N₂ p hp).1, (N₂ p hp).2.2⟩)
  · passes_own
theorem reduce_range {w : World} {A : Around} {s : Shared} {base : Heap} {outer : List Env} {p : Program} {loose : List Str} {mean : ExcName → Option Value} {mg mb : Str → Option Value} {Q E : Value → Shared → Prop} {f l : Addr} {v₀ : Value} {n : Nat} {r1 r2 r3 : Tok} (B : Below A base outer s.heap) (XB : (KK w).In base) (TB : Top p loose mean mg mb base) (hd : A.depth < recursionLimit) (hu : A.units + 20 < cLine) (hu2 : A.units + 60 < cLine) {fo : Obj} {fd : FuncData} (hf : s.heap.get? f = some fo) (hfd : fo.data = .func fd) (hA : A.handled = none) (hz : n ≤ 100)
   (hl : IsRange s.heap l 0 n 1 r1 r2 r3) (V : Nat → Value → List (Addr × Obj) → Prop) (h0 : V 0 v₀ [])
   (his : ∀ (M : Model) A' E' s' (Q' : Value → Shared → Prop), s.heap.StaysIn s'.heap → Q' (.bool false) s' → wpAny M A' (compareOp .Is v₀ (.ref 36)) Q' E' s')
   (HF : ∀ i v x news h tk A', A'.depth = A.depth + 1 → A'.units < A.units + 20 → A'.handled = none → V i v news → (∀ p ∈ news, h.get? p.1 = some p.2) → s.heap.StaysIn h → (i < n ∧ ∃ t, x = .int i t) → ∀ Q' E',
      (∀ v' news' h' tk', V (i + 1) v' news' → h.StaysIn h' → (∀ p ∈ news', h'.get? p.1 = some p.2 ∧ h.get? p.1 = none) → Q' v' { s with heap := h', toks := tk' }) → wpAny (model PR w) A' (call (.ref f) [v, x]) Q' E' { s with heap := h, toks := tk })
   (k : ∀ v news h' tk, V n v news → s.heap.StaysIn h' → (∀ p ∈ news, h'.get? p.1 = some p.2 ∧ s.heap.get? p.1 = none) → Q v { s with heap := h', toks := tk }) :
   wpAny (model PR w) A (call (.ref 44) [.ref f, .ref l, v₀]) Q E s := by
  unfold KK PR at *
  revert XB; k_fill; intro XB
  have X := XB.keeps B.stays
  have T := TB.keeps B.stays
  refine wpAny_call ?_
  k_dflt (refine' enter (binds := [(Str.ofString "function", .ref f), (Str.ofString "sequence", .ref l), (Str.ofString "initial", v₀)]) ?k3 ?k5 ?k6 ?k7 ?k8 ?k9 ?kB ?_ ?c5 ?c2 ?c3 ?c4; (case k3 => exact X); (case k5 => exact T.nolimit); (case k6 => k_is); (case k7 => k_is); (case k8 => assumption); (case k9 => exact binds_K X rfl (by k_is) rfl rfl rfl); (case c5 => decide); (case kB => exact locs rfl); (case c2 => exact rfl); (case c3 => exact rfl); (case c4 => exact rfl); k_whole; intro L' h' F' N'; (try dsimp only))
  repeat ((fail_if_success (with_reducible show wpAny _ _ (call (.builtin _) _) _ _ _)); (first | (k_unfold; (try dsimp only)) | walk1 | (dsimp only; walk1)))
  refine iter_range F' N' (F'.keep _ _ hl) (small_range hz) fun I h₁ F₁ N₁ => ?_
  repeat ((fail_if_success (with_reducible show wpAny _ _ (compareOp _ _ _) _ _ _)); (first | (k_unfold; (try dsimp only)) | walk1 | (dsimp only; walk1)))
  rename Fr _ _ _ _ => Fz
  refine his _ _ _ _ _ Fz.keep ?_
  repeat ((fail_if_success (with_reducible show wpAny _ _ (exec (Stmt.For _ _ _ _ _) _) _ _ _)); (first | (k_unfold; (try dsimp only)) | walk1 | (dsimp only; walk1)))
  rename Fr _ _ _ _ => Fy
  rename News _ _ _ _ => Ny
  with_unfolding_all refine For_invV s.heap rfl rfl (nameX_L Fy rfl ?_) (by intro _; rfl) ?_
  · refine wpAny_pyIter_rangeiter (Ny _ (.head _)).1 ?_
    have hIn : s.heap.get? I = none := (Ny _ (.head _)).2.2
    have hLI : L' ≠ I := fun e => (Ny _ (.head _)).2.1 e.symm
    refine loopAt I ([I]) ([I]) n _ _ _ ([]) ((fun i m news => ∃ v r, m = LMr f I v r ∧ V i v news)) rfl ((Walks.range (show (A.deeper _).handled = none from hA) I 0 1 n).bound) ?_ ?_ ?_ ((by show IsRangeIter _ _ _ _ _; rw [range_size] at Ny; simpa using (Ny _ (.head _)).1)) (Fr.lmr (f := f) (I := I) (v := v₀) Fy rfl rfl rfl) (News.nil) (⟨_, _, rfl, h0⟩) ?_ ?_
    · intro hm
      exact hLI (List.mem_singleton.mp hm)
    · intro b hb
      rw [List.mem_singleton.mp hb]
      exact hIn
    · intro p hp; cases hp
    · rintro i v m₁ news₁ s₁ own ⟨h₂, tk₂, rfl⟩ hi hP ⟨v₁, r, rfl, hV⟩ hnw hown hown2 hown3 hst F₂ N₂
      repeat ((fail_if_success (with_reducible show wpAny _ _ (callWith _ (Value.ref f) _ _ _) _ _ _)); (first | (k_unfold; (try dsimp only)) | walk1 | (dsimp only; walk1)))
      refine callWith_def hfd ?_
      repeat ((fail_if_success (with_reducible show wpAny _ _ (call (Value.ref f) _) _ _ _)); (first | (k_unfold; (try dsimp only)) | walk1 | (dsimp only; walk1)))
      rename Fr _ _ _ _ => F₃
      rename News _ _ _ _ => N₃
      refine HF i v₁ v news₁ _ _ (A.deeper _) rfl (by show A.units + 3 < _; omega) hA hV (fun p hp => (N₃ p (List.mem_append_right _ hp)).1) F₃.keep (by obtain ⟨h1, t, e⟩ := hP; exact ⟨h1, t, by simpa using e⟩) _ _ fun v' news' h₄ tk₄ hV' st nw => ?_
      have F₄ : Fr s.heap L' h₄ _ := F₃.keeps st
      have N₄ : News s.heap L' h₄ (own ++ news') := by
        intro p hp
        rcases List.mem_append.mp hp with q | q
        · exact ⟨st _ _ (N₃ p (List.mem_append_left _ q)).1, (N₃ p (List.mem_append_left _ q)).2⟩
        · refine ⟨(nw p q).1, fun e => ?_, ?_⟩
          · obtain ⟨o, es, ep, ho, _⟩ := F₃.ns
            have z : h₂.get? L' = some o := ho
            have y := (nw p q).2
            rw [e] at y
            have y' : h₂.get? L' = none := y
            rw [z] at y'; cases y'
          · cases e : s.heap.get? p.1 with
            | none => rfl
            | some o =>
              have := (nw p q).2
              rw [F₃.keep _ _ e] at this; cases this
      have hw₄ : ∀ p ∈ news', p.1 ∉ [I] := by
        intro p hp hm
        rw [List.mem_singleton] at hm
        have q := (N₃ _ (List.mem_append_left _ (hown3 I (.head _) hIn _ hst))).1
        have := (nw p hp).2
        rw [hm] at this
        rw [this] at q; cases q
      clear F₃ N₃
      repeat (first | (k_unfold; (try dsimp only)) | walk1 | (dsimp only; walk1))
      rename Fr _ _ _ _ => F₅
      rename News _ _ _ _ => N₅
      exact LoopStepU.intro (Fr.lmr (f := f) (I := I) (v := v') F₅ rfl rfl rfl) N₅ hw₄ ⟨_, _, rfl, hV'⟩
    · rintro h₂ tk₂ m₂ news₂ F₂ N₂ hnw ⟨v₁, r, rfl, hV⟩
      repeat (first | (k_unfold; (try dsimp only)) | walk1 | (dsimp only; walk1))
      rename Fr _ _ _ _ => F₃
      exact k v₁ news₂ _ _ hV F₃.keep (fun p hp => ⟨(N₂ p hp).1, (N₂ p hp).2.2⟩)
  · passes_own
end Mine
end
section
open PySem PySem.W PySem.Calls PyProof.Rows
set_option Elab.async false
set_option maxRecDepth 100000
set_option linter.unusedVariables false
namespace Mine
noncomputable def Ex (X : List Addr) (h h' : Heap) : Prop := ∀ b o, b ∉ X → h.get? b = some o → h'.get? b = some o
theorem Ex.refl {X : List Addr} {h : Heap} : Ex X h h := fun _ _ _ e => e
theorem Ex.trans {X : List Addr} {h h' h'' : Heap} (a : Ex X h h') (b : Ex X h' h'') : Ex X h h'' := fun c o hc e => b c o hc (a c o hc e)
theorem Ex.mono {X Y : List Addr} {h h' : Heap} (a : Ex X h h') (s : ∀ b ∈ X, b ∈ Y) : Ex Y h h' := fun c o hc e => a c o (fun hm => hc (s c hm)) e
theorem Ex.of_stays {X : List Addr} {h h' : Heap} (a : h.StaysIn h') : Ex X h h' := fun b o _ e => a b o e
theorem Ex.same {X : List Addr} {a : Addr} {h h' : Heap} (s : Heap.SameBut a h h') (ha : a ∈ X) : Ex X h h' := fun b o hb e => s.extBut b o (fun q => hb (q ▸ ha)) e
section
variable {prog : Program} {w : World} {A : Around} {E : Value → Shared → Prop} {env : Env}
theorem compLoopW {R : Result → Shared → Prop} {elt target iter : PySem.Expr} {scope : Scope} {pos : Pos} {I D : Addr} {fp wr : List Addr} {n : Nat} {P : Nat → Value → Prop} {St : Nat → Heap → Prop} {cenv : Env} {m₀ : Str → Option Value}
    (W : Walks prog w A I fp wr n P St) (J : Nat → List Value → Shared → Prop) {s : Shared}
    (hgo : ∀ i (s' : Shared) v (Q' : Unit → Shared → Prop) E', St i s'.heap → Q' () s' → wpAny (model prog w) A (letOwnedTupleGo target (.ref I) v) Q' E' s')
    (hDC : D ≠ cenv.locals) (hDf : D ∉ fp) (hCf : cenv.locals ∉ fp)
    (hst : St 0 s.heap) (hacc : s.heap.PlainList D #[]) (hn : s.heap.Ns cenv.locals m₀) (h0 : J 0 [] s) (hsz : n ≤ sizeLine)
    (hJ : ∀ i ys s' h' tk, J i ys s' → Ex (D :: cenv.locals :: wr) s'.heap h' → J i ys { s' with heap := h', toks := tk })
    (turn : ∀ i v ys s' m E', i < n → P i v → J i ys s' → s'.heap.Ns cenv.locals m → s'.heap.PlainList D ys.toArray → St (i + 1) s'.heap → wpAny (model prog w) A (assign target cenv v) (fun _ s₃ => wpAny (model prog w) A (eval elt cenv) (fun y s₄ =>
      (∃ m', s₄.heap.Ns cenv.locals m') ∧ s₄.heap.PlainList D ys.toArray ∧ St (i + 1) s₄.heap ∧ J (i + 1) (ys ++ [y]) s₄) E' s₃) E' s')
    (done : ∀ ys s' m', J n ys s' → ys.length = n → s'.heap.PlainList D ys.toArray → s'.heap.Ns cenv.locals m' → R (.ok .next) s') :
    codeAny (model prog w) A (.compLoop (.ListComp elt [⟨target, iter, [], 0⟩] scope pos) 0 (.ref I) (.ref D) cenv) R s := by
  have hCw : cenv.locals ∉ wr := fun h => hCf (W.sub _ h)
  have hDw : D ∉ wr := fun h => hDf (W.sub _ h)
  refine codeAny_loop rfl (fun k s' => ∃ i ys m', k = n + 1 - i ∧ i ≤ n ∧ ys.length = i ∧ St i s'.heap ∧ s'.heap.PlainList D ys.toArray ∧ s'.heap.Ns cenv.locals m' ∧ J i ys s') ?_ (n + 1) ⟨0, [], m₀, rfl, Nat.zero_le _, rfl, hst, hacc, hn, h0⟩
  rintro k s' ⟨i, ys, m', rfl, hi, hlen, hst', hacc', hn', hj⟩
  show wpAny _ _ ((compTurn (.ListComp elt [⟨target, iter, [], 0⟩] scope pos) 0 (.ref I) (.ref D) cenv).onRaise (fun x => do noteFrame x cenv; theTreesLotGoes x)) _ _ s'
  refine wpAny_noted ?_
  rw [compTurn_list1]
  refine wpAny_bind (wpAny_standAt (wpAny_bind ?_))
  by_cases hlt : i < n
  · refine W.item i _ _ _ hlt hst' fun v h₁ tk₁ hP hst₁ hk₁ => ?_
    have e1 : Ex (D :: cenv.locals :: wr) s'.heap h₁ := fun b o hb e => hk₁ b o (fun q => hb (.tail _ (.tail _ q))) e
    have hj₁ := hJ i ys s' h₁ tk₁ hj e1
    have hacc₁ : h₁.PlainList D ys.toArray := hacc'.at fun o e => hk₁ _ o hDw e
    refine wpAny_bind (hgo (i + 1) _ v _ _ hst₁ ?_)
    refine wpAny_bind (wpAny_mono (turn i v ys { s' with heap := h₁, toks := tk₁ } m' _ hlt hP hj₁ (hn'.at' fun o e => hk₁ _ o hCw e) hacc₁ hst₁) (fun _ s₃ h₃ => ?_) fun _ _ x => x)
    refine wpAny_bind (wpAny_bind (wpAny_mono h₃ (fun y s₄ h₄ => ?_) fun _ _ x => x))
    obtain ⟨⟨m₄, hn₄⟩, hacc₄, hst₄, hj₄⟩ := h₄
    refine wpAny_bind (wpAny_list_append_plain (hsz := by simp only [List.size_toArray]; omega) hacc₄ fun h₅ hl₅ hs₅ => ?_)
    refine wpAny_pure (wpAny_pure ⟨rfl, n + 1 - (i + 1), by omega, i + 1, ys ++ [y], m₄, rfl, hlt, by rw [List.length_append, hlen]; rfl, ?_, ?_, ?_, ?_⟩)
    · exact W.frame _ _ _ hst₄ fun b hb o e => hs₅.extBut b o (fun q => hDf (q ▸ hb)) e
    · rw [List.push_toArray] at hl₅; exact hl₅
    · exact hn₄.sameBut hs₅ hDC.symm
    · exact hJ _ _ s₄ h₅ _ hj₄ (Ex.same hs₅ (.head _))
  · have hin : i = n := by omega
    subst hin
    refine W.done _ _ _ hst' fun h₁ tk₁ hk₁ => ?_
    refine wpAny_pure (done ys _ m' (hJ i ys s' h₁ tk₁ hj fun b o hb e => hk₁ b o (fun q => hb (.tail _ (.tail _ q))) e) hlen (hacc'.at fun o e => hk₁ _ o hDw e) (hn'.at' fun o e => hk₁ _ o hCw e))

noncomputable def TurnEnd (g : Heap) (L : Addr) (m : Str → Option Value) (s : Shared) (I C D : Addr) (oI oD : Obj) (W : Value → Array GenState → List (Addr × Obj) → Prop) (y : Value) (s₄ : Shared) : Prop :=
  ∃ h tk gs nw oC m', s₄ = { s with heap := h, gens := gs, toks := tk } ∧ Fr g L h m ∧ LCg.NsObj oC m' ∧ News g L h ((I, oI) :: (C, oC) :: (D, oD) :: nw) ∧ (∀ p ∈ nw, p.1 ≠ I ∧ p.1 ≠ C ∧ p.1 ≠ D) ∧ W y gs nw
noncomputable def CompG (prog : Program) (w : World) (A : Around) (elt target : PySem.Expr) (env : Env) (scope : Scope) (cl : List (Str × Addr)) (g : Heap) (L : Addr) (m : Str → Option Value) (V : Nat → List Value → Array GenState → List (Addr × Obj) → Prop) (S : List (Addr × Obj) → Prop) (it : Value) (s₂ : Shared)
    (Fin : List Value → Addr → Addr → Shared → Prop) : Prop :=
  ∃ I fp n P St, ∃ news : List (Addr × Obj), it = .ref I ∧ Walks prog w A I fp [I] n P St ∧ n ≤ sizeLine ∧ St 0 s₂.heap ∧ (∀ b ∈ fp, b < s₂.heap.objs.size) ∧
      Fr g L s₂.heap m ∧ News g L s₂.heap news ∧ (∀ p ∈ news, p.1 ≠ I) ∧ g.get? I = none ∧ L ≠ I ∧ (∀ i h, St i h → ∃ o, h.get? I = some o) ∧
      (∀ i h h' o nw, St i h → h.get? I = some o → h'.get? I = some o → (∀ b o, g.get? b = some o → h'.get? b = some o) → News g L h' nw → S nw → St i h') ∧
      (∀ i (s' : Shared) v (Q' : Unit → Shared → Prop) E', St i s'.heap → Q' () s' → wpAny (model prog w) A (letOwnedTupleGo target (.ref I) v) Q' E' s') ∧ V 0 [] s₂.gens news ∧
      (∀ i v ys gs nw oI C oC D oD h tk m₂ E', i < n → P i v → V i ys gs nw → LCg.NsObj oC m₂ → Fr g L h m → News g L h ((I, oI) :: (C, oC) :: (D, oD) :: nw) → (∀ p ∈ nw, p.1 ≠ I ∧ p.1 ≠ C ∧ p.1 ≠ D) → (I ≠ C ∧ I ≠ D ∧ C ≠ D) →
        wpAny (model prog w) A (assign target (compEnvC scope cl C env) v) (fun _ s₃ => wpAny (model prog w) A (eval elt (compEnvC scope cl C env)) (TurnEnd g L m s₂ I C D oI oD (fun y gs' nw' => V (i + 1) (ys ++ [y]) gs' nw')) E' s₃) E' { s₂ with heap := h, gens := gs, toks := tk }) ∧
      (∀ ys gs nw D C k h tk, V n ys gs nw → ys.length = n → Fr g L h m → News g L h ((D, W.listOf ys.toArray k) :: nw) → (∀ p ∈ nw, p.1 ≠ D ∧ p.1 ≠ C) → Fin ys D C { s₂ with heap := h, gens := gs, toks := tk })
theorem CompG.mk {elt target : PySem.Expr} {env : Env} {scope : Scope} {cl : List (Str × Addr)} {g : Heap} {L : Addr} {m : Str → Option Value} {V : Nat → List Value → Array GenState → List (Addr × Obj) → Prop} {S : List (Addr × Obj) → Prop} {it : Value} {s₂ : Shared} {Fin : List Value → Addr → Addr → Shared → Prop}
    (I : Addr) (fp : List Addr) (n : Nat) (P : Nat → Value → Prop) (St : Nat → Heap → Prop) (news : List (Addr × Obj)) (h1 : it = .ref I) (h2 : Walks prog w A I fp [I] n P St) (h3 : n ≤ sizeLine) (h4 : St 0 s₂.heap) (h5 : ∀ b ∈ fp, b < s₂.heap.objs.size)
    (h6 : Fr g L s₂.heap m) (h7 : News g L s₂.heap news) (h8 : ∀ p ∈ news, p.1 ≠ I) (h9 : g.get? I = none) (h10 : L ≠ I) (h11 : ∀ i h, St i h → ∃ o, h.get? I = some o)
    (h12 : ∀ i h h' o nw, St i h → h.get? I = some o → h'.get? I = some o → (∀ b o, g.get? b = some o → h'.get? b = some o) → News g L h' nw → S nw → St i h')
    (h13 : ∀ i (s' : Shared) v (Q' : Unit → Shared → Prop) E', St i s'.heap → Q' () s' → wpAny (model prog w) A (letOwnedTupleGo target (.ref I) v) Q' E' s') (h14 : V 0 [] s₂.gens news)
    (h15 : ∀ i v ys gs nw oI C oC D oD h tk m₂ E', i < n → P i v → V i ys gs nw → LCg.NsObj oC m₂ → Fr g L h m → News g L h ((I, oI) :: (C, oC) :: (D, oD) :: nw) → (∀ p ∈ nw, p.1 ≠ I ∧ p.1 ≠ C ∧ p.1 ≠ D) → (I ≠ C ∧ I ≠ D ∧ C ≠ D) →
        wpAny (model prog w) A (assign target (compEnvC scope cl C env) v) (fun _ s₃ => wpAny (model prog w) A (eval elt (compEnvC scope cl C env)) (TurnEnd g L m s₂ I C D oI oD (fun y gs' nw' => V (i + 1) (ys ++ [y]) gs' nw')) E' s₃) E' { s₂ with heap := h, gens := gs, toks := tk })
    (h16 : ∀ ys gs nw D C k h tk, V n ys gs nw → ys.length = n → Fr g L h m → News g L h ((D, W.listOf ys.toArray k) :: nw) → (∀ p ∈ nw, p.1 ≠ D ∧ p.1 ≠ C) → Fin ys D C { s₂ with heap := h, gens := gs, toks := tk }) :
    CompG prog w A elt target env scope cl g L m V S it s₂ Fin := ⟨I, fp, n, P, St, news, h1, h2, h3, h4, h5, h6, h7, h8, h9, h10, h11, h12, h13, h14, h15, h16⟩
theorem CompG.block {elt target iter : PySem.Expr} {scope : Scope} {cl : List (Str × Addr)} {pos : Pos} {g : Heap} {L : Addr} {m : Str → Option Value} {V : Nat → List Value → Array GenState → List (Addr × Obj) → Prop} {S : List (Addr × Obj) → Prop} {it : Value} {s₂ : Shared} {Fin : List Value → Addr → Addr → Shared → Prop}
    {RR : Value → Addr → Result → Shared → Prop} (x : CompG prog w A elt target env scope cl g L m V S it s₂ Fin)
    (hcell : ∀ y ∈ scope.names, y.2 ≠ .cell) (hkind : scope.kind = .function) (hVS : ∀ i ys gs nw, V i ys gs nw → S nw)
    (hRR : ∀ D C ys s' m', Fin ys D C s' → s'.heap.Ns C m' → g.get? C = none → C ≠ L → C ≠ D → (∀ h'' : Heap, Heap.SameBut C s'.heap h'' → Fin ys D C { s' with heap := h'' }) → RR (.ref D) C (.ok .next) s') :
    wpAny (model prog w) A (newList []) (fun acc s₃ => wpAny (model prog w) A (newFunctionEnv scope env.globals cl [] env.qual none .none (some env)) (fun cenv s₄ =>
      codeAny (model prog w) A (.compStart (.ListComp elt [⟨target, iter, [], 0⟩] scope pos) 0 it acc { cenv with scope := relabel scope env }) (RR acc cenv.locals) s₄) E s₃) E s₂ := by
  obtain ⟨I, fp, n, P, St, news, rfl, W, hsz, hst, hfp, F, N, hnI, hgI, hLI, hIo, hSt, hgo, h0, turn, done⟩ := x
  refine wpAny_newObj_type (wpAny_newFunctionEnv hcell (by intro y hy; simp at hy) (fun h₁ hns₁ hsb₁ => ?_) hkind)
  dsimp only at hns₁ hsb₁ ⊢
  generalize hH2 : s₂.heap.push { cls := .type "list", dict := none, data := .seq ([] : List Value).toArray } = H2 at hns₁ hsb₁ ⊢
  have hC : H2.objs.size = s₂.heap.objs.size + 1 := by rw [← hH2, Heap.size_push]
  rw [hC] at hns₁ hsb₁ ⊢
  generalize hDD : s₂.heap.objs.size = D at *
  generalize hCC : D + 1 = C at *
  have hltC : D < C := by omega
  have hDC : D ≠ C := Nat.ne_of_lt hltC
  have old : ∀ b o, s₂.heap.get? b = some o → h₁.get? b = some o := fun b o e => hsb₁.extBut b o (Nat.ne_of_lt (Nat.lt_trans (hDD ▸ Heap.lt_size e) hltC)) (Heap.get?_push_of_some _ (hH2 ▸ Heap.get?_push_of_some _ e))
  have hacc : h₁.PlainList D #[] := ⟨_, hsb₁.extBut _ _ hDC (Heap.get?_push_of_some _ (hH2 ▸ hDD ▸ Heap.get?_push_size _ rfl))⟩
  have hst₁ : St 0 h₁ := W.frame _ _ _ hst fun b _ o e => old b o e
  have hIf : I ∈ fp := W.sub I (.head _)
  have hID : I ≠ D := Nat.ne_of_lt (hfp _ hIf)
  have hIC : I ≠ C := Nat.ne_of_lt (Nat.lt_trans (hfp _ hIf) hltC)
  have gD : ∀ b, D ≤ b → g.get? b = none := fun b hb => by
    cases e : g.get? b with
    | none => rfl
    | some o => exact absurd (hDD ▸ Heap.lt_size (F.keep _ _ e)) (Nat.not_lt.mpr hb)
  have lL : L < D := hDD ▸ F.ns.lt
  have hLD : L ≠ D := Nat.ne_of_lt lL
  have hLC : L ≠ C := Nat.ne_of_lt (Nat.lt_trans lL hltC)
  have gDn := gD D (Nat.le_refl _)
  have gCn := gD C (Nat.le_of_lt hltC)
  let J : Nat → List Value → Shared → Prop := fun i ys s' => ∃ h tk gs nw, s' = { s₂ with heap := h, gens := gs, toks := tk } ∧ Fr g L h m ∧ News g L h nw ∧ (∀ p ∈ nw, p.1 ≠ I ∧ p.1 ≠ C ∧ p.1 ≠ D) ∧ V i ys gs nw
  have hJ : ∀ i ys s' h' tk, J i ys s' → Ex (D :: C :: [I]) s'.heap h' → J i ys { s' with heap := h', toks := tk } := by
    rintro i ys _ h' tk ⟨h, tk', gs, nw, rfl, F', N', off, hV⟩ ex
    have nin : ∀ b, b ≠ I → b ≠ C → b ≠ D → b ∉ D :: C :: [I] := fun b h1 h2 h3 hm => by
      rcases List.mem_cons.mp hm with q | hm
      · exact h3 q
      · rcases List.mem_cons.mp hm with q | hm
        · exact h2 q
        · exact h1 (List.mem_singleton.mp hm)
    refine ⟨h', tk, gs, nw, rfl, ⟨F'.ns.at' fun o e => ex _ _ (nin _ hLI hLC hLD) e, fun b o e => ex _ _ (nin _ (fun q => by rw [q, hgI] at e; cases e) (fun q => by rw [q, gCn] at e; cases e) (fun q => by rw [q, gDn] at e; cases e)) (F'.keep _ _ e), F'.above⟩, fun p hp => ⟨ex _ _ (nin _ (off p hp).1 (off p hp).2.1 (off p hp).2.2) (N' p hp).1, (N' p hp).2⟩, off, hV⟩
  have fin : ∀ ys s', J n ys s' → ys.length = n → s'.heap.PlainList D ys.toArray → Fin ys D C s' := by
    rintro ys _ ⟨h, tk, gs, nw, rfl, F', N', off, hV⟩ hl ⟨k, hk⟩
    exact done ys gs nw D C k h tk hV hl F' (fun p hp => by
      rcases List.mem_cons.mp hp with rfl | hp
      · exact ⟨hk, hLD.symm, gDn⟩
      · exact N' p hp) (fun p hp => ⟨(off p hp).2.2, (off p hp).2.1⟩)
  have loop : codeAny (model prog w) A (.compLoop (.ListComp elt [⟨target, iter, [], 0⟩] scope pos) 0 (.ref I) (.ref D) (compEnvC scope cl C env))
        (RR (.ref D) C) { s₂ with heap := h₁, toks := s₂.toks + ([] : List (Str × Value)).length } := by
    refine compLoopW (cenv := compEnvC scope cl C env) (m₀ := fun x => List.lookup x []) W J hgo hDC (fun hm => absurd (hfp _ hm) (Nat.lt_irrefl _)) (fun hm => absurd (Nat.lt_trans hltC (hfp _ hm)) (Nat.lt_irrefl _)) hst₁ hacc hns₁
      (hJ 0 [] { s₂ with toks := s₂.toks } h₁ _ ⟨_, _, _, news, rfl, F, N, fun p hp => ⟨hnI p hp, Nat.ne_of_lt (Nat.lt_trans (hDD ▸ Heap.lt_size (N p hp).1) hltC), Nat.ne_of_lt (hDD ▸ Heap.lt_size (N p hp).1)⟩, h0⟩ fun b o _ e => old b o e) hsz hJ ?_ ?_
    · rintro i v ys _ m₁ E' hi hP ⟨h, tk, gs, nw, rfl, F', N', off, hV⟩ hns hpl hst'
      obtain ⟨oI, heI⟩ := hIo _ _ hst'
      obtain ⟨oC, heC, hoC⟩ := LCg.ns_obj hns
      obtain ⟨k, heD⟩ := hpl
      have N3 : News g L h ((I, oI) :: (C, oC) :: (D, _) :: nw) := fun p hp => by
        rcases List.mem_cons.mp hp with rfl | hp
        · exact ⟨heI, hLI.symm, hgI⟩
        · rcases List.mem_cons.mp hp with rfl | hp
          · exact ⟨heC, hLC.symm, gCn⟩
          · rcases List.mem_cons.mp hp with rfl | hp
            · exact ⟨heD, hLD.symm, gDn⟩
            · exact N' p hp
      refine wpAny_mono (turn i v ys gs nw oI C oC D _ h tk m₁ E' hi hP hV hoC F' N3 off ⟨hIC, hID, hDC.symm⟩) (fun _ s₃ h₃ => wpAny_mono h₃ (fun y s₄ h₄ => ?_) fun _ _ e => e) fun _ _ e => e
      obtain ⟨h₄, tk₄, gs₄, nw₄, oC₄, m₄, rfl, F₄, hC₄, N₄, off₄, hV₄⟩ := h₄
      exact ⟨⟨m₄, hC₄.ns (N₄ _ (.tail _ (.head _))).1⟩, ⟨k, (N₄ _ (.tail _ (.tail _ (.head _)))).1⟩, hSt _ _ _ _ _ hst' heI (N₄ _ (.head _)).1 F₄.keep (fun p hp => N₄ p (.tail _ (.tail _ (.tail _ hp)))) (hVS _ _ _ _ hV₄), ⟨h₄, tk₄, gs₄, nw₄, rfl, F₄, fun p hp => N₄ p (.tail _ (.tail _ (.tail _ hp))), off₄, hV₄⟩⟩
    · rintro ys s' m' hj hl hpl hn'
      exact hRR D C ys s' m' (fin ys s' hj hl hpl) hn' gCn hLC.symm hDC.symm fun h'' hs'' => fin ys _ (hJ n ys s' h'' s'.toks hj (Ex.same hs'' (.tail _ (.head _)))) hl (hpl.at fun o e => hs''.extBut _ o hDC e)
  exact codeAny_compStart_list loop (W.self 0 _ _ _ hst₁ loop)
theorem compL {s : Shared} {elt target iter : PySem.Expr} {scope : Scope} {cl : List (Str × Addr)} {pos : Pos} {Q : Value → Shared → Prop} (g : Heap) (L : Addr) (m : Str → Option Value) (V : Nat → List Value → Array GenState → List (Addr × Obj) → Prop) (S : List (Addr × Obj) → Prop)
    (hclos : closureFor scope env = pure cl) (hcell : ∀ y ∈ scope.names, y.2 ≠ .cell) (hkind : scope.kind = .function)
    (hnames : ∀ y ∈ scope.names, y.2 = .local → scope.names.lookup y.1 = some .local) (hVS : ∀ i ys gs nw, V i ys gs nw → S nw)
    (h : wpAny (model prog w) A (eval iter env) (fun xv s₁ => wpAny (model prog w) A (pyIter xv) (fun it s₂ => CompG prog w A elt target env scope cl g L m V S it s₂ (fun _ D _ s' => Q (.ref D) s')) E s₁) E s)
    (hs : ∀ x, foldedSetIterable iter env x = pure x := by intro _; rfl) :
    wpAny (model prog w) A (eval (.ListComp elt [⟨target, iter, [], 0⟩] scope pos) env) Q E s := by
  rw [eval_ListComp]
  refine wpAny_comprehension_free (use := none) rfl hs hclos hkind hnames (wpAny_mono h (fun xv s₁ h₁ => wpAny_mono h₁ (fun it s₂ h₂ => ?_) fun _ _ e => e) fun _ _ e => e)
  exact h₂.block (RR := fun acc C => compPost (model prog w) A E none Q acc C) hcell hkind hVS (fun D C ys s' m' hQ hn _ _ _ hall => ⟨m', hn, fun h'' hs'' => hall h'' hs''⟩)
theorem compLA {s : Shared} {elt target iter : PySem.Expr} {y : Str} {py : Pos} {scope : Scope} {cl : List (Str × Addr)} {pos spos : Pos} {Q : Flow → Shared → Prop} (g : Heap) (L : Addr) (m : Str → Option Value) (V : Nat → List Value → Array GenState → List (Addr × Obj) → Prop) (S : List (Addr × Obj) → Prop)
    (hsw : swapsWith (.ListComp elt [⟨target, iter, [], 0⟩] scope pos) (some (.Name y py)) spos.line env = pure true)
    (hclos : closureFor scope env = pure cl) (hcell : ∀ y ∈ scope.names, y.2 ≠ .cell) (hkind : scope.kind = .function)
    (hnames : ∀ y ∈ scope.names, y.2 = .local → scope.names.lookup y.1 = some .local) (hVS : ∀ i ys gs nw, V i ys gs nw → S nw)
    (hy : env.kindOf y = some .local) (hp : (env.scope.kind == .class || (env.scope.kind == .module && env.locals != env.globals)) = false) (hL : env.locals = L)
    (h : wpAny (model prog w) A (eval iter env) (fun xv s₁ => wpAny (model prog w) A (pyIter xv) (fun it s₂ => CompG prog w A elt target env scope cl g L m V S it s₂ (fun ys D C s' => ∃ k nw, Fr g L s'.heap m ∧ News g L s'.heap ((D, W.listOf ys.toArray k) :: nw) ∧ (∀ p ∈ nw, p.1 ≠ D ∧ p.1 ≠ C) ∧ ∀ h', Fr g L h' (fun z => if z = y then some (.ref D) else m z) → News g L h' ((D, W.listOf ys.toArray k) :: nw) → Q .next { s' with heap := h', toks := s'.toks + 1 })) E s₁) E s)
    (hs : ∀ x, foldedSetIterable iter env x = pure x := by intro _; rfl) :
    wpAny (model prog w) A (exec (.Assign [.Name y py] (.ListComp elt [⟨target, iter, [], 0⟩] scope pos) spos) env) Q E s := by
  subst hL
  rw [exec_Assign_Name_used _ _ _ _ hsw]
  refine wpAny_bind (wpAny_standAt (wpAny_bind ?_))
  show wpAny _ A (do let _ ← comprehension (.ListComp elt [⟨target, iter, [], 0⟩] scope pos) scope env _ (newList []) false (eval iter env) (some (assign (.Name y py) env))) _ _ s
  refine wpAny_bind (wpAny_mono (wpAny_comprehension_free (use := some (assign (.Name y py) env)) (Q := fun _ s' => Q .next s') rfl hs hclos hkind hnames
    (wpAny_mono h (fun xv s₁ h₁ => wpAny_mono h₁ (fun it s₂ h₂ => ?_) fun _ _ e => e) fun _ _ e => e)) (fun _ s' hq => wpAny_pure (wpAny_pure hq)) fun _ _ e => e)
  refine h₂.block (RR := fun acc C => compPost (model prog w) A E (some (assign (.Name y py) env)) (fun _ s' => Q .next s') acc C) hcell hkind hVS (fun D C ys s' m' hF hn gC hCL hCD hall => ?_)
  obtain ⟨k, nw, F, N, off, hQ⟩ := hF
  show wpAny _ A (assign (.Name y py) env (.ref D)) _ _ _
  refine wpAny_assign_Name (wpAny_storeName_local hy F.ns (fun h₂ hn₃ hs₂ => ?_) hp)
  refine ⟨m', hn.sameBut hs₂ hCL, fun h₃ hs₃ => hQ h₃ ((F.set hn₃ hs₂).change hs₃ hCL gC) fun p hp => ⟨?_, (N p hp).2⟩⟩
  refine hs₃.extBut _ _ ?_ (((N.set hs₂) p hp).1)
  rcases List.mem_cons.mp hp with rfl | hp
  · exact hCD.symm
  · exact (off p hp).2
end
end Mine
end
section
open PySem PySem.W PySem.Calls PyProof.Rows
set_option Elab.async false
set_option maxRecDepth 100000
set_option maxHeartbeats 4000000
set_option linter.unusedVariables false
set_option linter.unusedSimpArgs false
namespace Mine

section
variable {prog : Program} {w : World} {A : Around} {E : Value → Shared → Prop} {s : Shared} {env : Env} {h₀ : Heap} {x : Str} {body : List Stmt} {Q : Flow → Shared → Prop}
theorem range_inv {I : Addr} {a : Int} {n : Nat} (J : Nat → (Str → Option Value) → List (Addr × Obj) → Prop)
    (turn : ∀ i m news, i < n → J i m news → ∀ t h tk, Fr h₀ env.locals h (fun y => if y = x then some (.int (a + (i : Int)) t) else m y) →
      News h₀ env.locals h ((I, itR (a + ((i + 1 : Nat) : Int)) ((n : Int) - ((i + 1 : Nat) : Int))) :: news) →
      wpAny (model prog w) A (execs body env) (UnrPost h₀ env.locals { s with heap := h, toks := tk } I (itR (a + ((i + 1 : Nat) : Int)) ((n : Int) - ((i + 1 : Nat) : Int))) (J (i + 1)) Q) E { s with heap := h, toks := tk })
    (done : ∀ m news, J n m news → ∀ h tk, Fr h₀ env.locals h m → News h₀ env.locals h news → Q .next { s with heap := h, toks := tk }) :
    ∀ k i m news, i + k = n → J i m news → RangeRest prog w A E h₀ env x body Q s I a n k i m news
  | 0, i, m, news, e, hj => by
    have : i = n := by omega
    subst this
    exact RangeRest.zero (done m news hj)
  | k + 1, i, m, news, e, hj => RangeRest.succ fun t h tk F N => wpAny_mono (turn i m news (by omega) hj t h tk F N) (fun f s' p => by
      have up : ∀ {s'}, UnrEnd h₀ env.locals { s with heap := h, toks := tk } I (itR (a + ((i + 1 : Nat) : Int)) ((n : Int) - ((i + 1 : Nat) : Int))) (J (i + 1)) s' → UnrEnd h₀ env.locals { s with heap := h, toks := tk } I (itR (a + ((i + 1 : Nat) : Int)) ((n : Int) - ((i + 1 : Nat) : Int))) (RangeRest prog w A E h₀ env x body Q s I a n k (i + 1)) s' := by
        rintro s' ⟨h', tk', m', news', e', F', N', ho, r⟩
        exact ⟨h', tk', m', news', e', F', N', ho, range_inv J turn done k (i + 1) m' news' (by omega) r⟩
      cases f with
      | ret v => exact p
      | brk => exact p
      | next => exact up p
      | cont => exact up p) fun _ _ e => e
end
noncomputable def wrow : Nat → List Int
  | 0 => [1, 0, 0, 0, 0]
  | n + 1 => match wrow n with
    | [a, b, c, d, e] => [1, a + b, b + c, c + d, d + e]
    | _ => []
theorem wrow_len : ∀ n, (wrow n).length = 5
  | 0 => rfl
  | n + 1 => by
    have h := wrow_len n
    unfold wrow
    match e : wrow n, h with
    | [a, b, c, d, e], _ => rfl
section
variable {prog : Program} {w : World} {A : Around} {E : Value → Shared → Prop} {s : Shared}
theorem item_at {value slice : PySem.Expr} {l : Addr} {vs : List Value} {k : Int} {u : Tok} {v : Value} {Q : Value → Shared → Prop} (hl : s.heap.IsList l vs.toArray) (h0 : 0 ≤ k) (hhi : k < 2 ^ 63) (hx : vs[k.toNat]? = some v) (h : Q v s)
    (hs : subscripted slice false (.ref l) (.int k u) = operate [.ref l, .int k u] (getItem (.ref l) (.int k u)) := by with_unfolding_all rfl) :
    wpAny (model prog w) A (subscriptTail value slice (.ref l) (.int k u)) Q E s :=
  tail_any hl.typeIs slot_list_getitem.lookup (wpAny_getItem_list hl h0 hhi (by simpa using hx) h) hs
theorem seqI (i : Nat) : seqIndex? (-1) (i + 1) = some i := by
  rw [PySem.seqIndex_neg (by decide) (by omega)]
  congr 1
  omega
end
theorem comp_go {r : List Int} {vs ys : List Value} (hF : Paired (fun v y => ∃ k t u, v = Value.int k t ∧ y = Value.int (r.getD (k - 1).toNat 0 + r.getD k.toNat 0) u) vs ys) :
    ∀ i : Nat, (∀ (j : Nat) (v : Value), vs[j]? = some v → ∃ t, v = .int ((i + j + 1 : Nat) : Int) t) → IntsAre ys ((List.range' i vs.length).map fun k => r.getD k 0 + r.getD (k + 1) 0) := by
  induction hF with
  | nil => intro i _; exact .nil
  | cons h0 hF ih =>
    intro i hP
    obtain ⟨k, t, u, e, rfl⟩ := h0
    obtain ⟨t', e'⟩ := hP 0 _ rfl
    have ek : k = ((i + 0 + 1 : Nat) : Int) := (Value.int.inj (e.symm.trans e')).1
    have q1 : (k - 1).toNat = i := by omega
    have q2 : k.toNat = i + 1 := by omega
    rw [q1, q2]
    exact .cons _ _ (ih (i + 1) (fun j v hj => by
      have := hP (j + 1) v hj
      rwa [show i + (j + 1) + 1 = i + 1 + j + 1 by omega] at this))
theorem ints_cons {ys : List Value} {n : Int} {ns : List Int} (h : IntsAre ys (n :: ns)) : ∃ y zs, ys = y :: zs ∧ IntsAre zs ns := by
  cases h with
  | cons _ _ h => exact ⟨_, _, rfl, h⟩
theorem comp4 {r : List Int} {vs ys : List Value} (hl : vs.length = 4) (hP : ∀ (j : Nat) (v : Value), vs[j]? = some v → j < 4 ∧ ∃ t, v = .int (1 + (j : Int) * 1) t) (hF : Paired (fun v y => ∃ k t u, v = Value.int k t ∧ y = Value.int (r.getD (k - 1).toNat 0 + r.getD k.toNat 0) u) vs ys) :
    ∃ y0 y1 y2 y3, ys = [y0, y1, y2, y3] ∧ IntsAre [y0, y1, y2, y3] [r.getD 0 0 + r.getD 1 0, r.getD 1 0 + r.getD 2 0, r.getD 2 0 + r.getD 3 0, r.getD 3 0 + r.getD 4 0] := by
  have i4 := comp_go hF 0 (fun j v hj => by
    obtain ⟨_, t, e⟩ := hP j v hj
    exact ⟨t, by rw [e, show (1 + (j : Int) * 1) = ((0 + j + 1 : Nat) : Int) by omega]⟩)
  rw [hl] at i4
  have i5 : IntsAre ys [r.getD 0 0 + r.getD 1 0, r.getD 1 0 + r.getD 2 0, r.getD 2 0 + r.getD 3 0, r.getD 3 0 + r.getD 4 0] := i4
  clear i4
  obtain ⟨y0, z0, rfl, h0⟩ := ints_cons i5
  obtain ⟨y1, z1, rfl, h1⟩ := ints_cons h0
  obtain ⟨y2, z2, rfl, h2⟩ := ints_cons h1
  obtain ⟨y3, z3, rfl, h3⟩ := ints_cons h2
  cases h3
  exact ⟨_, _, _, _, rfl, i5⟩
theorem news_more {h₀ hY h₂ : Heap} {L D : Addr} {o : Obj} {m : Str → Option Value} {news : List (Addr × Obj)} (F : Fr h₀ L hY m) (N : News h₀ L hY news) (up : ∀ b o, hY.get? b = some o → h₂.get? b = some o) (fD : ∀ b o, hY.get? b = some o → b ≠ D) (hD : h₂.get? D = some o) : News h₀ L h₂ ((D, o) :: news) := by
  intro q hq
  rcases List.mem_cons.mp hq with rfl | hq
  · refine ⟨hD, fun e => ?_, ?_⟩
    · obtain ⟨o, es, ep, ho, _⟩ := F.ns
      exact fD _ _ ho e.symm
    · cases e : h₀.get? D with
      | none => rfl
      | some o => exact absurd rfl (fD _ _ (F.keep _ _ e))
  · exact ⟨up _ _ (N q hq).1, (N q hq).2⟩
theorem val_eq {r : List Int} {a a' b b' : Nat} {u : Tok} (ha : a = a') (hb : b = b') : Value.int (r.getD a 0 + r.getD b 0) u = Value.int (r.getD a' 0 + r.getD b' 0) u := by rw [ha, hb]
noncomputable def WRows (cL I : Addr) (i : Nat) (m : Str → Option Value) (news : List (Addr × Obj)) : Prop :=
  ∃ lw nn oc, ∃ rows : List (Addr × Obj), news = (lw, W.listOf (rows.map fun p => Value.ref p.1).toArray nn) :: (cL, oc) :: rows ∧ oc.data = .cell (some (.ref lw)) ∧ rows.length = i + 1 ∧
    (∀ j p, rows[j]? = some p → ∃ vs n, p.2 = W.listOf vs.toArray n ∧ IntsAre vs (wrow j)) ∧ cL ≠ lw ∧ (∀ p ∈ rows, p.1 ≠ lw) ∧ ∀ p ∈ news, p.1 ≠ I
theorem offI {I D3 lw cL : Addr} {o o' o3 oc : Obj} {rows : List (Addr × Obj)} (h : ∀ p ∈ (lw, o) :: (cL, oc) :: rows, p.1 ≠ I) (hl : I < D3) : ∀ p ∈ (lw, o') :: (cL, oc) :: (rows ++ [(D3, o3)]), p.1 ≠ I := by
  intro q hq
  rcases List.mem_cons.mp hq with rfl | hq
  · exact h (lw, o) (.head _)
  · rcases List.mem_cons.mp hq with rfl | hq
    · exact h _ (.tail _ (.head _))
    · rcases List.mem_append.mp hq with hq | hq
      · exact h _ (.tail _ (.tail _ hq))
      · rw [List.mem_singleton.mp hq]; exact Nat.ne_of_gt hl
theorem wrow_succ (i : Nat) : [1, (wrow i).getD 0 0 + (wrow i).getD 1 0, (wrow i).getD 1 0 + (wrow i).getD 2 0, (wrow i).getD 2 0 + (wrow i).getD 3 0, (wrow i).getD 3 0 + (wrow i).getD 4 0] = wrow (i + 1) := by
  have h := wrow_len i
  show _ = (match wrow i with
    | [a, b, c, d, e] => [1, a + b, b + c, c + d, d + e]
    | _ => [])
  match wrow i, h with
  | [a, b, c, d, e], _ => rfl
noncomputable def WaysAt (h : Heap) (l : Addr) : Prop := ∃ rs : List Addr, rs.length = 20 ∧ (∃ n, h.get? l = some (W.listOf (rs.map Value.ref).toArray n)) ∧ ∀ j r, rs[j]? = some r → ∃ vs n, h.get? r = some (W.listOf vs.toArray n) ∧ IntsAre vs (wrow j)
noncomputable def WaysIn (os : List (Addr × Obj)) (l : Addr) : Prop := ∃ rs : List Addr, rs.length = 20 ∧ (∃ n, (l, W.listOf (rs.map Value.ref).toArray n) ∈ os) ∧ ∀ (j : Nat) (r : Addr), rs[j]? = some r → ∃ (vs : List Value) (n : Nat), (r, W.listOf vs.toArray n) ∈ os ∧ IntsAre vs (wrow j)
theorem WaysIn.at {os : List (Addr × Obj)} {l : Addr} {h : Heap} (x : WaysIn os l) (ho : ∀ p ∈ os, h.get? p.1 = some p.2) : WaysAt h l := by
  obtain ⟨rs, hl, ⟨n, h1⟩, h2⟩ := x
  refine ⟨rs, hl, ⟨n, ho _ h1⟩, fun j r hj => ?_⟩
  obtain ⟨vs, m, h3, h4⟩ := h2 j r hj
  exact ⟨vs, m, ho _ h3, h4⟩
theorem ways_spec {w : World} {A : Around} {s : Shared} {base : Heap} {outer : List Env} {p : Program} {loose : List Str} {mean : ExcName → Option Value} {mg mb : Str → Option Value} {Q E : Value → Shared → Prop} (B : Below A base outer s.heap) (XB : (KK w).In base) (TB : Top p loose mean mg mb base) (hd : A.depth < recursionLimit) (hu : A.units + 20 < cLine) (hu2 : A.units + 60 < cLine) (hA : A.handled = none)
   (k : ∀ h' tk l (os : List (Addr × Obj)), s.heap.StaysIn h' → (∀ p ∈ os, h'.get? p.1 = some p.2 ∧ s.heap.get? p.1 = none ∧ (∀ v, p.2.data ≠ .cell v) ∧ p.2.cls ≠ .none) → WaysIn os l → Q (.ref l) { s with heap := h', toks := tk }) :
   wpAny (model PR w) A (call (.ref 103) []) Q E s := by
  unfold KK PR at *
  revert XB; k_fill; intro XB
  have X := XB.keeps B.stays
  have T := TB.keeps B.stays
  refine wpAny_call ?_
  k_dflt (refine' enterC ?k3 ?k5 ?k6 ?k7 ?k8 ?k9 ?kB ?kD ?_ ?c2 ?c3 ?c4; (case k3 => exact X); (case k5 => exact T.nolimit); (case k6 => k_is); (case k7 => k_is); (case k8 => assumption); (case k9 => exact BindsTo.of_eq rfl); (case kB => exact rfl); (case kD => decide +kernel); (case c2 => exact rfl); (case c3 => exact rfl); (case c4 => exact rfl); k_whole; intro L' h' tk' cells' F' N' Y'; k_cells Y'; (try dsimp only))
  repeat ((fail_if_success (with_reducible show wpAny _ _ (exec (Stmt.For _ _ _ _ _) _) _ _ _)); (first | (k_unfold; (try dsimp only)) | walk1 | (dsimp only; walk1)))
  with_unfolding_all refine For_invV s.heap rfl rfl ?_ (by intro _; rfl) (by passes_own)
  repeat ((fail_if_success (with_reducible show wpAny _ _ (pyIter _) _ _ _)); (first | (k_unfold; (try dsimp only)) | walk1 | (dsimp only; walk1)))
  rename Fr _ _ _ _ => Fz
  rename News _ _ _ _ => Nz
  rename IsRange _ _ _ _ _ _ _ _ => hR
  rename _ = Data.cell (some _) => dC
  rename _ < _ ∧ _ < _ => hlt
  refine iter_rangeUnr (news := [_, _, _]) (n := 19) (show (A.deeper _).handled = none from hA) hR rfl rfl Fz (fun q hq => Nz q (by
    rcases List.mem_cons.mp hq with rfl | hq
    · exact .head _
    · rcases List.mem_cons.mp hq with rfl | hq
      · exact .tail _ (.tail _ (.head _))
      · rcases List.mem_cons.mp hq with rfl | hq
        · exact .tail _ (.head _)
        · cases hq)) fun I hI => ?_
  refine range_inv (WRows (L' + 1) I) ?_ ?_ 19 0 _ _ rfl ?_
  · rintro i m news hi ⟨lw, nn, oc, rows, rfl, hoc, hlen, hrows, hne, hrl, hnI⟩ t h₁ tk₁ F₁ N₁
    repeat ((fail_if_success (with_reducible show wpAny _ _ (eval (Expr.ListComp _ _ _ _) _) _ _ _)); (first | (k_unfold; (try dsimp only)) | walk1 | (dsimp only; walk1)))
    rename _ < _ ∧ _ => l7
    with_unfolding_all refine wpAny_ListComp_free (cl := [(Str.ofString "ways", L' + 1)]) (fun _ => true) (fun v y => ∃ k t u, v = .int k t ∧ y = .int ((wrow i).getD (k - 1).toNat 0 + (wrow i).getD k.toNat 0) u) rfl (by decide) rfl (by decide) rfl ?_
    repeat ((fail_if_success (with_reducible show wpAny _ _ (pyIter _) _ _ _)); (first | (k_unfold; (try dsimp only)) | walk1 | (dsimp only; walk1)))
    rename IsRange _ _ _ _ _ _ _ _ => hR2
    rename Heap => hY
    rename Fr _ _ _ _ => Fy
    rename News _ _ _ _ => Ny
    refine wpAny_pyIter_range hR2 rfl ?_
    have hcl : L' + 1 ∉ [] := by simp
    refine ex6 _ ([_]) ([_]) 4 _ _ ⟨rfl, (Walks.range (show (A.deeper _).handled = none from hA) _ 1 1 4).bound, by decide, ?_, ?_, ⟨?_, ?_⟩, ?_⟩
    · show IsRangeIter _ _ _ _ _
      exact Heap.get?_push_size _ rfl
    · intro b hb
      rw [List.mem_singleton.mp hb, Heap.size_push]
      exact Nat.lt_succ_self _
    · intro C i' v s₃ m₃ E' hC hP hn hm hk htk
      exact wpAny_pure ⟨rfl, _, _, rfl, fun _ _ e => e⟩
    · intro C i' v s₃ m₃ E' hC hP hp hn hm hk htk
      obtain ⟨hi', t', rfl⟩ := hP
      have up : ∀ b o, hY.get? b = some o → s₃.heap.get? b = some o := fun b o e => hk b o (fun hm => by
        rw [List.mem_singleton] at hm
        exact absurd (hm ▸ Heap.lt_size e) (Nat.lt_irrefl _)) (Heap.get?_push_of_some _ e)
      have hcell := up _ _ (Ny _ (.tail _ (.tail _ (.tail _ (.head _))))).1
      have hlw := up _ _ (Ny _ (.tail _ (.tail _ (.head _)))).1
      have hir : i < rows.length := by omega
      obtain ⟨vs, n5, e5, i5⟩ := hrows i rows[i] (List.getElem?_eq_getElem hir)
      have hrow := up _ _ (Ny rows[i] (.tail _ (.tail _ (.tail _ (.tail _ (List.getElem_mem hir)))))).1
      rw [e5] at hrow
      repeat ((fail_if_success (with_reducible show wpAny _ _ (eval (Expr.Name _ _) _) _ _ _)); (first | (k_unfold; (try dsimp only)) | walk1 | (dsimp only; walk1)))
      with_unfolding_all refine wpAny_Name (wpAny_loadName_cell (c := L' + 1) rfl rfl rfl ⟨oc, hcell, hoc⟩ ?_)
      repeat ((fail_if_success (with_reducible show wpAny _ _ (subscriptTail _ _ _ _) _ _ _)); (first | (k_unfold; (try dsimp only)) | walk1 | (dsimp only; walk1)))
      refine kde_neg (j := i) (vs := rows.map fun p => Value.ref p.1) ⟨_, hlw, rfl, nn, rfl⟩ (by decide) (by decide) (by rw [List.length_map, hlen]; exact seqI i) (by rw [List.getElem?_map, List.getElem?_eq_getElem hir]; rfl) ?_
      repeat ((fail_if_success (with_reducible show wpAny _ _ (eval (Expr.Name _ _) _) _ _ _)); (first | (k_unfold; (try dsimp only)) | walk1 | (dsimp only; walk1)))
      with_unfolding_all refine wpAny_Name (wpAny_loadName_local rfl rfl hn hm ?_)
      repeat ((fail_if_success (with_reducible show wpAny _ _ (subscriptTail _ _ _ _) _ _ _)); (first | (k_unfold; (try dsimp only)) | walk1 | (dsimp only; walk1)))
      obtain ⟨ta, xa⟩ := i5.get i' ((wrow i).getD i' 0) (by rw [List.getD_eq_getElem?_getD, List.getElem?_eq_getElem (by rw [wrow_len]; omega)]; rfl)
      obtain ⟨tb, xb⟩ := i5.get (i' + 1) ((wrow i).getD (i' + 1) 0) (by rw [List.getD_eq_getElem?_getD, List.getElem?_eq_getElem (by rw [wrow_len]; omega)]; rfl)
      refine item_at (vs := vs) ⟨_, hrow, rfl, n5, rfl⟩ (by omega) (by omega) (by rw [show ((1 : Int) + (i' : Int) * 1 - 1).toNat = i' by omega]; exact xa) ?_
      repeat ((fail_if_success (with_reducible show wpAny _ _ (eval (Expr.Name _ _) _) _ _ _)); (first | (k_unfold; (try dsimp only)) | walk1 | (dsimp only; walk1)))
      with_unfolding_all refine wpAny_Name (wpAny_loadName_cell (c := L' + 1) rfl rfl rfl ⟨oc, hcell, hoc⟩ ?_)
      repeat ((fail_if_success (with_reducible show wpAny _ _ (subscriptTail _ _ _ _) _ _ _)); (first | (k_unfold; (try dsimp only)) | walk1 | (dsimp only; walk1)))
      refine kde_neg (j := i) (vs := rows.map fun p => Value.ref p.1) ⟨_, hlw, rfl, nn, rfl⟩ (by decide) (by decide) (by rw [List.length_map, hlen]; exact seqI i) (by rw [List.getElem?_map, List.getElem?_eq_getElem hir]; rfl) ?_
      repeat ((fail_if_success (with_reducible show wpAny _ _ (eval (Expr.Name _ _) _) _ _ _)); (first | (k_unfold; (try dsimp only)) | walk1 | (dsimp only; walk1)))
      with_unfolding_all refine wpAny_Name (wpAny_loadName_local rfl rfl hn hm ?_)
      repeat ((fail_if_success (with_reducible show wpAny _ _ (subscriptTail _ _ _ _) _ _ _)); (first | (k_unfold; (try dsimp only)) | walk1 | (dsimp only; walk1)))
      refine item_at (vs := vs) ⟨_, hrow, rfl, n5, rfl⟩ (by omega) (by omega) (by rw [show ((1 : Int) + (i' : Int) * 1).toNat = i' + 1 by omega]; exact xb) ?_
      repeat ((fail_if_success (with_reducible show _ ∧ _)); (first | (k_unfold; (try dsimp only)) | walk1 | (dsimp only; walk1)))
      have ha : i' = ((1 : Int) + (i' : Int) * 1 - 1).toNat := by omega
      have hb : i' + 1 = ((1 : Int) + (i' : Int) * 1).toNat := by omega
      exact ⟨⟨_, _, _, rfl, val_eq ha hb⟩, _, _, rfl, fun _ _ e => e⟩
    · intro D h₂ tk₂ ys₂ vs₂ hD hl hpl hlen2 hP hF hk
      obtain ⟨n₂, hpl⟩ := hpl
      rw [List.filter_eq_self.mpr (fun _ _ => rfl)] at hF
      obtain ⟨y0, y1, y2, y3, hys, i4⟩ := comp4 (r := wrow i) hlen2 hP hF
      have hys' : ys₂ = [y0, y1, y2, y3].toArray := by rw [← hys]
      subst hys'
      have up2 : ∀ b o, hY.get? b = some o → h₂.get? b = some o := fun b o e => hk b o (fun hm => by
        rw [List.mem_singleton] at hm
        exact absurd (hm ▸ Heap.lt_size e) (Nat.lt_irrefl _)) (Heap.get?_push_of_some _ e)
      have fD : ∀ b o, hY.get? b = some o → b ≠ D := fun b o e q => by
        rw [q] at e
        exact absurd ((Heap.get?_push_of_some _ e).symm.trans hD) (by intro h; cases h)
      have F₃ := Fy.keeps up2
      have N₃ := news_more Fy Ny up2 fD hpl
      have lD1 := fD _ _ (Ny _ (.tail _ (.tail _ (.head _)))).1
      have lD2 : ∀ q ∈ rows, q.1 ≠ D := fun q hq => fD _ _ (Ny q (.tail _ (.tail _ (.tail _ (.tail _ hq))))).1
      clear Fy Ny
      repeat ((fail_if_success (with_reducible show wpAny _ _ (call (Value.builtin _) _) _ _ _)); (first | (k_unfold; (try dsimp only)) | walk1 | (dsimp only; walk1)))
      rename Fr _ _ _ _ => F₄
      rename News _ _ _ _ => N₄
      rename _ < _ ∧ _ => l8
      rename Heap => h₄
      rename Addr => D3
      obtain ⟨u1, N₄⟩ : ∃ u1, News s.heap L' h₄ ((D3, W.listOf [Value.int 1 u1, y0, y1, y2, y3].toArray 0) :: _ :: _ :: (I, itR (0 + ((i + 1 : Nat) : Int)) (((19 : Nat) : Int) - ((i + 1 : Nat) : Int))) :: (lw, W.listOf (rows.map fun p => Value.ref p.1).toArray nn) :: (L' + 1, oc) :: rows) := ⟨_, N₄⟩
      refine append_K F₄ N₄ (upd_split (own := [_, _, _, _]) (rest := (L' + 1, oc) :: rows) ?_ ?_) (fun h₅ F₅ N₅ => ?_) ?_
      · intro q hq
        rcases List.mem_cons.mp hq with rfl | hq
        · exact Nat.ne_of_gt l8.2.2.2.1
        · rcases List.mem_cons.mp hq with rfl | hq
          · exact lD1.symm
          · rcases List.mem_cons.mp hq with rfl | hq
            · exact Nat.ne_of_gt l7.2.1
            · rw [List.mem_singleton.mp hq]
              exact (hnI _ (.head _)).symm
      · intro q hq
        rcases List.mem_cons.mp hq with rfl | hq
        · exact hne
        · exact hrl q hq
      · clear F₄ N₄
        have hp : ((rows.map fun p => Value.ref p.1).toArray.push (Value.ref D3)) = ((rows ++ [(D3, W.listOf [Value.int 1 u1, y0, y1, y2, y3].toArray 0)]).map fun p => Value.ref p.1).toArray := by
          rw [List.push_toArray, List.map_append]; rfl
        rw [hp] at N₅
        repeat ((fail_if_success (with_reducible show UnrEnd _ _ _ _ _ _ _)); (first | (k_unfold; (try dsimp only)) | walk1 | (dsimp only; walk1)))
        refine UnrEnd.intro F₅ N₅ ((lw, W.listOf ((rows ++ [(D3, W.listOf [Value.int 1 u1, y0, y1, y2, y3].toArray 0)]).map fun p => Value.ref p.1).toArray (nn + 1)) :: (L' + 1, oc) :: (rows ++ [(D3, W.listOf [Value.int 1 u1, y0, y1, y2, y3].toArray 0)])) ?_ ?_ ⟨lw, nn + 1, oc, _, rfl, hoc, by rw [List.length_append, hlen]; rfl, ?_, hne, ?_, ?_⟩
        · intro q hq
          rcases List.mem_cons.mp hq with rfl | hq
          · exact .tail _ (.tail _ (.tail _ (.head _)))
          · rcases List.mem_cons.mp hq with rfl | hq
            · exact .tail _ (.tail _ (.tail _ (.tail _ (.head _))))
            · rcases List.mem_cons.mp hq with rfl | hq
              · exact .tail _ (.tail _ (.tail _ (.tail _ (.tail _ (.head _)))))
              · rcases List.mem_append.mp hq with hq | hq
                · exact .tail _ (.tail _ (.tail _ (.tail _ (.tail _ (.tail _ hq)))))
                · rw [List.mem_singleton.mp hq]; exact .head _
        · exact offI hnI l8.2.2.1
        · intro j q hj
          by_cases hjl : j < rows.length
          · rw [List.getElem?_append_left hjl] at hj
            exact hrows j q hj
          · rw [List.getElem?_append_right (by omega)] at hj
            have hj0 : j - rows.length = 0 := by
              by_cases z : j - rows.length = 0
              · exact z
              · rw [List.getElem?_eq_none (by rw [List.length_singleton]; omega)] at hj
                cases hj
            rw [hj0] at hj
            cases hj
            have hj1 : j = i + 1 := by omega
            subst hj1
            exact ⟨_, 0, rfl, wrow_succ i ▸ .cons _ _ i4⟩
        · intro q hq
          rcases List.mem_append.mp hq with hq | hq
          · exact hrl q hq
          · rw [List.mem_singleton.mp hq]; exact Nat.ne_of_gt l8.2.2.2.1
        · exact offI hnI l8.2.2.1
      · rw [List.size_toArray, List.length_map, hlen]
        show _ ≤ 16777216
        omega
  · rintro m news ⟨lw, nn, oc, rows, rfl, hoc, hlen, hrows, hne, hrl, hnI⟩ h₁ tk₁ F₁ N₁
    repeat (first | (k_unfold; (try dsimp only)) | walk1 | (dsimp only; walk1))
    refine k _ _ _ ((lw, W.listOf (rows.map fun p => Value.ref p.1).toArray nn) :: rows) F₁.keep (fun p hp => ?_) ⟨rows.map (·.1), by rw [List.length_map, hlen], ⟨nn, by rw [List.map_map]; exact .head _⟩, fun j r hj => ?_⟩
    · rcases List.mem_cons.mp hp with rfl | hp
      · exact ⟨(N₁ _ (.head _)).1, (N₁ _ (.head _)).2.2, fun v e => (nomatch e), fun e => (nomatch e)⟩
      · have z := N₁ p (.tail _ (.tail _ hp))
        obtain ⟨j, hj, rfl⟩ := List.getElem_of_mem hp
        obtain ⟨vs, n, eq, iv⟩ := hrows j rows[j] (List.getElem?_eq_getElem hj)
        exact ⟨z.1, z.2.2, fun v e => (by rw [eq] at e; cases e), fun e => (by rw [eq] at e; cases e)⟩
    · rw [List.getElem?_map] at hj
      cases e : rows[j]? with
      | none => rw [e] at hj; cases hj
      | some q =>
        rw [e] at hj
        cases hj
        obtain ⟨vs, n, eq, iv⟩ := hrows j q e
        refine ⟨vs, n, .tail _ ?_, iv⟩
        rw [← eq]
        exact List.mem_of_getElem? e
  · refine ⟨_, _, _, [(_, W.listOf [_, _, _, _, _].toArray 0)], rfl, dC, rfl, fun j p hj => ?_, Nat.ne_of_lt hlt.2, fun p hp => ?_, fun p hp => ?_⟩
    · match j, hj with
      | 0, hj => cases hj; exact ⟨_, 0, rfl, .cons _ _ (.cons _ _ (.cons _ _ (.cons _ _ (.cons _ _ .nil))))⟩
    · rw [List.mem_singleton.mp hp]
      exact Nat.ne_of_lt hlt.1
    · exact Nat.ne_of_lt (hI p hp)
end Mine
end
section
open PySem PySem.W PySem.Calls PyProof.Rows
set_option Elab.async false
set_option maxRecDepth 100000
set_option maxHeartbeats 4000000
set_option linter.unusedVariables false
set_option linter.unusedSimpArgs false
namespace Mine

section
variable {prog : Program} {w : World} {A : Around} {s : Shared} {K : Frag}
  {R : Result → Shared → Prop} {name qual : Str} {params : Arguments} {body : List Stmt} {scope : Scope} {dV kV doc pm cdv ct oc : Value} {an od : Option Addr} {osl : Array (Option Value)} {f : Addr} {args : Args} {binds : List (Str × Value)}
noncomputable abbrev hid (h : Heap) (P : Addr) : Heap := hideAll h [P]
theorem hid_up {base h : Heap} {P : Addr} (up : base.StaysIn h) (hb : base.get? P = none) : base.StaysIn (hid h P) := fun b o e => hideAll_get _ (up b o e) (fun hm => by
  rw [List.mem_singleton] at hm
  rw [hm, hb] at e
  cases e)
theorem enterH {P : Addr} {tab : Obj} (X : K.In s.heap) (hlim : s.heap.NoLimit) (hP : s.heap.get? P = some tab)
    (ho : K.lookup f = some ⟨oc, od, .func (fnOf name qual params body scope dV kV doc pm an cdv ct), osl⟩) (hcd : codeIn K cdv qual = true) (hroom : A.depth < recursionLimit)
    (hbind : BindsTo s (fnOf name qual params body scope dV kV doc pm an cdv ct) args binds) (hkind : (binds.all fun y => scope.names.lookup y.1 == some .local || scope.names.lookup y.1 == some .cell) = true)
    (hnd : ((cellsFrom 0 scope.names []).map (·.1)).Nodup)
    (h : ∀ L' h₁ tk cells, Fr (hid s.heap P) L' h₁ (bindL (envOfC qual scope L' f cdv).kindOf binds fun _ => none) → News (hid s.heap P) L' h₁ (cells ++ [(P, tab)]) → P < L' →
      CellsAre (bindC (envOfC qual scope L' f cdv).kindOf binds fun _ => none) (cellsFrom (L' + 1) scope.names []) cells →
      wpAny (model prog w) (A.deeper (envOfC qual scope L' f cdv)) (execs body (envOfC qual scope L' f cdv))
        (fun fl s' => R (.ok (.ret (match fl with | .ret v => v | _ => .none))) s')
        (fun _ _ => False)
        { s with heap := h₁, toks := tk })
    (hco : scope.isCoroutine = false) (hgen : scope.isGenerator = false) (hk : scope.kind = .function) : codeAny (model prog w) A (.call (.ref f) args) R s := by
  refine enterC X hlim ho hcd hroom hbind hkind hnd (fun L' h₁ tk cells F N Y => ?_) hco hgen hk
  have hlt : P < L' := Nat.lt_of_lt_of_le (Heap.lt_size hP) F.above
  refine h L' h₁ tk cells ⟨F.ns, fun b o e => F.keep b o (of_hideAll _ e), by rw [hideAll_size]; exact F.above⟩ (fun q hq => ?_) hlt Y
  rcases List.mem_append.mp hq with hq | hq
  · refine ⟨(N q hq).1, (N q hq).2.1, ?_⟩
    cases e : (hid s.heap P).get? q.1 with
    | none => rfl
    | some o =>
      have := (N q hq).2.2
      rw [of_hideAll _ e] at this
      cases this
  · rw [List.mem_singleton.mp hq]
    exact ⟨F.keep _ _ hP, Nat.ne_of_lt hlt, hideAll_none _ (.head _)⟩
theorem enterL {lb : PySem.Expr} {cl : List (Str × Addr)} {ctv : Value} {c' : Addr} (hlim : s.heap.NoLimit)
    (ho : s.heap.get? f = some (kla_obj name qual params lb scope cl pm c' ctv)) (hcd : s.heap.CodeRec (.ref c') qual) (hroom : A.depth < recursionLimit)
    (hbind : bindArgs (kla_fn name qual params lb scope cl pm (.ref c') ctv) args = pure binds) (hloc : ∀ y ∈ binds, scope.names.lookup y.1 = some .local)
    (h : ∀ L' h₁, Fr s.heap L' h₁ (fun y => binds.reverse.lookup y) →
      wpAny (model prog w) (A.deeper (envX qual scope L' f (.ref c') cl)) (eval lb (envX qual scope L' f (.ref c') cl))
        (fun v s' => R (.ok (.ret v)) s') (fun _ _ => False) { s with heap := h₁, toks := s.toks + binds.length })
    (hco : scope.isCoroutine = false) (hgen : scope.isGenerator = false) (hk : scope.kind = .function)
    (hcell : ∀ x ∈ scope.names, x.2 ≠ .cell) : codeAny (model prog w) A (.call (.ref f) args) R s := by
  refine kla_callFunE hroom ho rfl hco hgen rfl hcd ?_
  rw [hbind]
  refine wpAny_pure (wpAny_newFunctionEnv hcell hloc (fun h₁ hns hsb => ⟨hlim.fresh _ hsb, ?_⟩) hk)
  show codeAny _ _ (.expr lb (envX qual scope s.heap.objs.size f (.ref c') cl)) _ _
  have hk₁ : ∀ b o, s.heap.get? b = some o → h₁.get? b = some o := fun b o e => hsb.extBut b o (Nat.ne_of_lt (Heap.lt_size e)) (Heap.get?_push_of_some _ e)
  exact kla_codeExpr (wpAny_mono (h s.heap.objs.size h₁ ⟨hns, hk₁, Nat.le_refl _⟩) (fun v s' hl => hl) fun _ _ y => y.elim)
theorem frames_dict {h base : Heap} {l : List Env} (x : h.FunFrames base l) : ∀ env ∈ l, ∃ L o, env.frame = some L ∧ h.get? L = some o ∧ ∀ vs, o.data ≠ .fields vs := by
  induction l with
  | nil => intro env he; cases he
  | cons e l ih =>
    obtain ⟨_, ⟨L, o, hf, _, ho, hd⟩, hr⟩ := x
    intro env he
    rcases List.mem_cons.mp he with rfl | he
    · exact ⟨L, o, hf, ho, hd⟩
    · exact ih hr env he
theorem hid_below {A : Around} {base h : Heap} {outer : List Env} {P : Addr} {ps : Array Value} (B : Below A base outer h) (hb : base.get? P = none) (hP : h.get? P = some (tabObj ps)) : Below A base outer (hid h P) := by
  refine ⟨B.stack, hid_up B.stays hb, funFrames_hideAll B.frames fun env he a ha hf => ?_⟩
  rw [List.mem_singleton.mp ha] at hf
  obtain ⟨L, o, hf', ho, hd⟩ := frames_dict B.frames env he
  rw [hf] at hf'
  cases hf'
  rw [hP] at ho
  cases ho
  exact hd _ rfl
theorem hid_get {h : Heap} {P b : Addr} {o : Obj} {ps : Array Value} (hP : h.get? P = some (tabObj ps)) (hb : h.get? b = some o) (hd : ∀ vs, o.data ≠ .fields vs) : (hid h P).get? b = some o := hideAll_get _ hb (fun hm => by
  rw [List.mem_singleton] at hm
  rw [hm, hP] at hb
  cases hb
  exact hd _ rfl)
theorem hid_list {h : Heap} {P l : Addr} {its : Array Value} {ps : Array Value} (hP : h.get? P = some (tabObj ps)) (hl : h.IsList l its) : (hid h P).IsList l its := by
  obtain ⟨o, ho, hc, n, hd⟩ := hl
  exact ⟨o, hid_get hP ho (fun vs e => by rw [hd] at e; cases e), hc, n, hd⟩
theorem WaysAt.hid {h : Heap} {P l : Addr} {ps : Array Value} (hP : h.get? P = some (tabObj ps)) (hw : WaysAt h l) : WaysAt (hid h P) l := by
  obtain ⟨rs, hl, ⟨n, h1⟩, h2⟩ := hw
  refine ⟨rs, hl, ⟨n, hid_get hP h1 (fun vs e => nomatch e)⟩, fun j r hj => ?_⟩
  obtain ⟨vs, m, h3, h4⟩ := h2 j r hj
  exact ⟨vs, m, hid_get hP h3 (fun vs e => nomatch e), h4⟩
theorem WaysAt.keeps {h h' : Heap} {l : Addr} (hw : WaysAt h l) (k : h.StaysIn h') : WaysAt h' l := by
  obtain ⟨rs, hl, ⟨n, h1⟩, h2⟩ := hw
  refine ⟨rs, hl, ⟨n, k _ _ h1⟩, fun j r hj => ?_⟩
  obtain ⟨vs, m, h3, h4⟩ := h2 j r hj
  exact ⟨vs, m, k _ _ h3, h4⟩
end
end Mine
end
section
open PySem PySem.W PySem.Calls PyProof.Rows
set_option Elab.async false
set_option maxRecDepth 100000
set_option maxHeartbeats 4000000
set_option linter.unusedVariables false
set_option linter.unusedSimpArgs false
namespace Mine
noncomputable def TabOk (P : Addr) (l c : Nat) (qual : Str) (h : Heap) : Prop := h.get? P = some (tabObj #[]) ∨ ∃ c', h.get? P = some (tabObj #[rawInt l, rawInt c, .ref c']) ∧ h.CodeRec (.ref c') qual
noncomputable def TabStep (P : Addr) (l c : Nat) (qual : Str) (h h' : Heap) : Prop := h'.get? P = h.get? P ∨ ∃ c', h'.get? P = some (tabObj #[rawInt l, rawInt c, .ref c']) ∧ h'.CodeRec (.ref c') qual ∧ h.get? c' = none
section
variable {M : Model} {A : Around} {E : Value → Shared → Prop} {s : Shared} {g : Heap} {L c P : Addr} {m mg mb : Str → Option Value}
  {p : Program} {loose : List Str} {mean : ExcName → Option Value} {name qual : Str} {params : Arguments} {body : PySem.Expr} {scope : Scope} {pos : Pos} {firstLine : Nat} {clos : List (Str × Addr)} {env : Env}
theorem lam_g {Q : Value → Shared → Prop} {S : Heap → Prop} {tab : Obj} (F : Fr g L s.heap m) (T : Top p loose mean mg mb g) (C : CodeHd g c P) (hgP : g.get? P = none) (hge : env.globals = mainGlobals) (hcd : env.code = .ref c)
    (hT : s.heap.get? P = some tab) (hK : tab = tabObj #[] ∨ ∃ c', tab = tabObj #[rawInt pos.line, rawInt pos.col, .ref c'] ∧ ∀ h2 : Heap, S h2 → h2.CodeRec (.ref c') qual) (hcl : closureFor scope env = pure clos)
    (h : ∀ f c' ctv h' tk tab' (cs : List (Addr × Obj)), Ex [P] s.heap h' → h'.get? P = some tab' → (∀ p ∈ (f, kla_obj name qual params body scope clos ((mg "__name__").getD .none) c' ctv) :: cs, h'.get? p.1 = some p.2 ∧ s.heap.get? p.1 = none) →
      (∀ h2 : Heap, S h2 → h2.get? P = some tab' → (∀ p ∈ cs, h2.get? p.1 = some p.2) → h2.CodeRec (.ref c') qual ∧ TabStep P pos.line pos.col qual s.heap h2) → Q (.ref f) { s with heap := h', toks := tk }) :
    wpAny M A (makeFunction name qual params (.expr body) scope env [] [] [] pos firstLine) Q E s := by
  have hgs := T.g.keeps F.keep
  obtain ⟨bm, ob, b1, b2, b3, b4, b5, b6⟩ := T.bmain
  have hbG : bm ≠ mainGlobals := fun q => by
    obtain ⟨o, es, ep, e, hd, _⟩ := T.g
    rw [q, e] at b3; cases b3; rw [hd] at b6; cases b6
  have hbP : bm ≠ P := fun q => by rw [q, hgP] at b3; cases b3
  have hGP : mainGlobals ≠ P := fun q => by
    obtain ⟨o, es, ep, e, hd, _⟩ := T.g
    rw [q, hgP] at e; cases e
  rcases hK with rfl | ⟨c0, rfl, hc0⟩
  · refine kla_makeFunction (mg := mg) hcl hge hgs hcd (C.keeps F.keep) hT trivial rfl hGP ⟨bm, ob, b1, b2, hbG, hbP, F.keep _ _ b3, b4, b5, b6⟩ fun c' ctv h' tk hx hge hlt hrec htb => ?_
    have up : ∀ b o, h'.get? b = some o → (h'.push (kla_obj name qual params body scope clos ((mg "__name__").getD .none) c' ctv)).get? b = some o := fun b o e => Heap.get?_push_of_some _ e
    obtain ⟨c2, oc, vs, t, e2, hoc, hd, hv⟩ := hrec
    cases e2
    have key : ∀ h2 : Heap, (∀ p ∈ [(c', oc)], h2.get? p.1 = some p.2) → h2.CodeRec (.ref c') qual := fun h2 hk => ⟨c', oc, vs, t, rfl, hk _ (.head _), hd, hv⟩
    refine h _ c' ctv _ _ _ [(c', oc)] (fun b o hb e => up _ _ (hx b o (fun q => hb (List.mem_singleton.mpr q)) e)) (up _ _ htb) (fun p hp => ?_) (fun h2 _ h3 h4 => ⟨key h2 h4, .inr ⟨c', h3, key h2 h4, Heap.get?_none_of_le hge⟩⟩)
    rcases List.mem_cons.mp hp with rfl | hp
    · exact ⟨Heap.get?_push_size _ rfl, Heap.get?_none_of_le (Nat.le_of_lt (Nat.lt_of_le_of_lt hge hlt))⟩
    · rw [List.mem_singleton.mp hp]
      exact ⟨up _ _ hoc, Heap.get?_none_of_le hge⟩
  · refine kla_makeFunctionHit (mg := mg) (cv := .ref c0) hcl hge hgs hcd (C.keeps F.keep) hT (by simp [TriplesOk, rawInt]) (by simp [codeAmong, rawInt]) ⟨bm, ob, b1, b2, hbG, hbP, F.keep _ _ b3, b4, b5, b6⟩ fun ctv h' tk hk hsz => ?_
    have up : ∀ b o, s.heap.get? b = some o → (h'.push (kla_obj name qual params body scope clos ((mg "__name__").getD .none) c0 ctv)).get? b = some o := fun b o e => Heap.get?_push_of_some _ (hk _ _ e)
    refine h _ c0 ctv _ _ _ [] (fun b o _ e => up _ _ e) (up _ _ hT) (fun p hp => ?_) (fun h2 h1 h3 _ => ⟨hc0 h2 h1, .inl (h3.trans hT.symm)⟩)
    rw [List.mem_singleton.mp hp]
    exact ⟨Heap.get?_push_size _ rfl, Heap.get?_none_of_le hsz⟩
theorem lam_led {h' : Heap} {tab' : Obj} {l l' os : List (Addr × Obj)} {q : Addr × Obj} (N : News g L s.heap l) (F : Fr g L s.heap m) (hgP : g.get? P = none) (hL : L ≠ P) (x : Ex [P] s.heap h') (x1 : h'.get? P = some tab') (x2 : ∀ p ∈ q :: os, h'.get? p.1 = some p.2 ∧ s.heap.get? p.1 = none)
    (hs : ∀ p ∈ l', p ∈ l ∧ p.1 ≠ P) : News g L h' (q :: (P, tab') :: (l' ++ os)) := fun p hp => by
  have fr : ∀ p : Addr × Obj, h'.get? p.1 = some p.2 ∧ s.heap.get? p.1 = none → h'.get? p.1 = some p.2 ∧ p.1 ≠ L ∧ g.get? p.1 = none := fun p z => by
    refine ⟨z.1, fun e => ?_, ?_⟩
    · obtain ⟨o, es, ep, ho, _⟩ := F.ns
      rw [← e, z.2] at ho; cases ho
    · cases q : g.get? p.1 with
      | none => rfl
      | some o => have := F.keep _ _ q; rw [z.2] at this; cases this
  rcases List.mem_cons.mp hp with rfl | hp
  · exact fr _ (x2 _ (.head _))
  · rcases List.mem_cons.mp hp with rfl | hp
    · exact ⟨x1, Ne.symm hL, hgP⟩
    · rcases List.mem_append.mp hp with hp | hp
      · have h1 := hs p hp
        exact ⟨x _ _ (fun hm => h1.2 (List.mem_singleton.mp hm)) (N p h1.1).1, (N p h1.1).2⟩
      · exact fr _ (x2 _ (.tail _ hp))
theorem lam_new {Q : Value → Shared → Prop} {as : Array Value} (F : Fr g L s.heap m) (T : Top p loose mean mg mb g) (C : CodeHd g c P) (hgP : g.get? P = none) (hge : env.globals = mainGlobals) (hcd : env.code = .ref c)
    (hT : s.heap.get? P = some (tabObj as)) (ht : TriplesOk as.toList) (hnf : codeAmong pos as.toList = none) (hcl : closureFor scope env = pure clos)
    (h : ∀ f c' ctv h' tk, Ex [P] s.heap h' → h'.get? P = some (tabObj (as ++ #[rawInt pos.line, rawInt pos.col, .ref c'])) → h'.get? f = some (kla_obj name qual params body scope clos ((mg "__name__").getD .none) c' ctv) → s.heap.get? f = none → s.heap.get? c' = none → h'.CodeRec (.ref c') qual → Q (.ref f) { s with heap := h', toks := tk }) :
    wpAny M A (makeFunction name qual params (.expr body) scope env [] [] [] pos firstLine) Q E s := by
  have hgs := T.g.keeps F.keep
  obtain ⟨bm, ob, b1, b2, b3, b4, b5, b6⟩ := T.bmain
  have hbG : bm ≠ mainGlobals := fun q => by
    obtain ⟨o, es, ep, e, hd, _⟩ := T.g
    rw [q, e] at b3; cases b3; rw [hd] at b6; cases b6
  have hbP : bm ≠ P := fun q => by rw [q, hgP] at b3; cases b3
  have hGP : mainGlobals ≠ P := fun q => by
    obtain ⟨o, es, ep, e, hd, _⟩ := T.g
    rw [q, hgP] at e; cases e
  refine kla_makeFunction (mg := mg) hcl hge hgs hcd (C.keeps F.keep) hT ht hnf hGP ⟨bm, ob, b1, b2, hbG, hbP, F.keep _ _ b3, b4, b5, b6⟩ fun c' ctv h' tk hx hgs' hlt hrec htb => ?_
  have up : ∀ b o, h'.get? b = some o → (h'.push (kla_obj name qual params body scope clos ((mg "__name__").getD .none) c' ctv)).get? b = some o := fun b o e => Heap.get?_push_of_some _ e
  exact h _ c' ctv _ _ (fun b o hb e => up _ _ (hx b o (fun q => hb (List.mem_singleton.mpr q)) e)) (up _ _ htb) (Heap.get?_push_size _ rfl) (Heap.get?_none_of_le (Nat.le_of_lt (Nat.lt_of_le_of_lt hgs' hlt))) (Heap.get?_none_of_le hgs') (hrec.keeps up)
end
theorem Fr.exP {g h h' : Heap} {L P : Addr} {m : Str → Option Value} (F : Fr g L h m) (ex : Ex [P] h h') (hg : g.get? P = none) (hL : L ≠ P) : Fr g L h' m :=
  ⟨F.ns.at' fun o e => ex _ _ (fun hm => hL (List.mem_singleton.mp hm)) e, fun b o e => ex _ _ (fun hm => by rw [List.mem_singleton.mp hm, hg] at e; cases e) (F.keep _ _ e), F.above⟩
theorem Ex.stays {X : List Addr} {h h' h'' : Heap} (a : Ex X h h') (b : h'.StaysIn h'') : Ex X h h'' := fun c o hc e => b c o (a c o hc e)
theorem TabStep.stays {P : Addr} {l c : Nat} {q : Str} {h h8 h9 : Heap} {o : Obj} (x : TabStep P l c q h h8) (hP : h.get? P = some o) (st : h8.StaysIn h9) : TabStep P l c q h h9 := by
  rcases x with e | ⟨c', e, hc, hf⟩
  · exact .inl ((st _ _ (e.trans hP)).trans hP.symm)
  · exact .inr ⟨c', st _ _ e, hc.keeps st, hf⟩
theorem TabStep.base {P : Addr} {l c : Nat} {q : Str} {h h8 h9 : Heap} {o : Obj} (x : TabStep P l c q h8 h9) (hP : h.get? P = some o) (hP8 : h8.get? P = some o) (st : Ex [P] h h8) : TabStep P l c q h h9 := by
  rcases x with e | ⟨c', e, hc, hn⟩
  · exact .inl (e.trans (hP8.trans hP.symm))
  · refine .inr ⟨c', e, hc, ?_⟩
    cases z : h.get? c' with
    | none => rfl
    | some o' =>
      by_cases y : c' = P
      · rw [y, hP8] at hn; cases hn
      · have := st _ _ (fun hm => y (List.mem_singleton.mp hm)) z
        rw [hn] at this; cases this
theorem hid_code {h : Heap} {P c0 : Addr} {i j : Int} {t u : Tok} {q : Str} (hP : h.get? P = some (tabObj #[.int i t, .int j u, .ref c0])) (hc : h.CodeRec (.ref c0) q) : (hid h P).CodeRec (.ref c0) q := by
  obtain ⟨c, oc, vs, t2, e, ho, hd, hv⟩ := hc
  refine ⟨c, oc, vs, t2, e, hideAll_get _ ho (fun hm => ?_), hd, hv⟩
  rw [List.mem_singleton] at hm
  rw [hm, hP] at ho
  cases ho
  cases hd
  simp at hv
theorem tab_hid {h : Heap} {P l c : Nat} {q : Str} (hP : TabOk P l c q h) : ∃ ps : Array Value, h.get? P = some (tabObj ps) ∧ (tabObj ps = tabObj #[] ∨ ∃ c', tabObj ps = tabObj #[rawInt l, rawInt c, .ref c'] ∧ ∀ h2 : Heap, (hid h P).StaysIn h2 → h2.CodeRec (.ref c') q) := by
  rcases hP with hP | ⟨c', hP, h⟩
  · exact ⟨_, hP, .inl rfl⟩
  · exact ⟨_, hP, .inr ⟨c', rfl, fun h2 st => (hid_code hP h).keeps st⟩⟩
theorem hid_ex {P : Addr} {h h' : Heap} (x : Ex [P] h h') : (hid h P).StaysIn h' := fun b o e => by
  by_cases q : b ∈ [P]
  · rw [show (hid h P).get? b = none from hideAll_none _ q] at e; cases e
  · exact x b o q (of_hideAll _ e)
theorem News.ex {g h h' : Heap} {L P : Addr} {l l' : List (Addr × Obj)} (N : News g L h l) (ex : Ex [P] h h') (hs : ∀ p ∈ l', p ∈ l ∧ p.1 ≠ P) : News g L h' l' := fun p hp => by
  have h1 := hs p hp
  exact ⟨ex _ _ (fun hm => h1.2 (List.mem_singleton.mp hm)) (N p h1.1).1, (N p h1.1).2⟩
theorem News.put {g h h' : Heap} {L : Addr} {m : Str → Option Value} {a b os : List (Addr × Obj)} (N : News g L h' (a ++ b)) (F : Fr g L h m) (ho : ∀ p ∈ os, h'.get? p.1 = some p.2 ∧ h.get? p.1 = none) : News g L h' (a ++ (os ++ b)) := fun p hp => by
  rcases List.mem_append.mp hp with hp | hp
  · exact N p (List.mem_append_left _ hp)
  · rcases List.mem_append.mp hp with hp | hp
    · have z := ho p hp
      refine ⟨z.1, fun e => ?_, ?_⟩
      · obtain ⟨o, es, ep, ho, _⟩ := F.ns
        rw [← e, z.2] at ho; cases ho
      · cases q : g.get? p.1 with
        | none => rfl
        | some o => have := F.keep _ _ q; rw [z.2] at this; cases this
    · exact N p (List.mem_append_right _ hp)
end Mine
end
section
open PySem PySem.W PySem.Calls PyProof.Rows
set_option Elab.async false
set_option maxRecDepth 100000
set_option maxHeartbeats 4000000
set_option linter.unusedVariables false
set_option linter.unusedSimpArgs false
namespace Mine

theorem getD_get {l : List Int} {i : Nat} (h : i < l.length) : l[i]? = some (l.getD i 0) := by
  rw [List.getD_eq_getElem?_getD, List.getElem?_eq_getElem h]; rfl
noncomputable def psum (xs : List Int) : Nat → Int
  | 0 => 0
  | i + 1 => psum xs i + (wrow (xs.getD i 0).toNat).getD (i + 1) 0
theorem place_spec {w : World} {A : Around} {s : Shared} {base : Heap} {outer : List Env} {p : Program} {loose : List Str} {mean : ExcName → Option Value} {mg mb : Str → Option Value} {Q E : Value → Shared → Prop} (B : Below A base outer s.heap) (XB : (KK w).In base) (TB : Top p loose mean mg mb base) (hd : A.depth < recursionLimit) (hu : A.units + 20 < cLine) (hdp : A.depth + 100 < recursionLimit) (hu2 : A.units + 100 < cLine) (hA : A.handled = none) (CB : CodeHd base 109 105) (hb : base.get? 105 = none) (hP : TabOk 105 120 18 (Str.ofString "_law_place.<locals>.<lambda>") s.heap)
   {l lw : Addr} {vs : List Value} {xs : List Int} (hl : s.heap.IsList l vs.toArray) (ix : IntsAre vs xs) (hw : WaysAt s.heap lw) (lx : xs.length ≤ 4) (hx : ∀ x ∈ xs, 0 ≤ x ∧ x < 20)
   (k : ∀ h' tk u, Ex [105] s.heap h' → TabStep 105 120 18 (Str.ofString "_law_place.<locals>.<lambda>") s.heap h' → Q (.int (psum xs xs.length) u) { s with heap := h', toks := tk }) :
   wpAny (model PR w) A (call (.ref 110) [.ref l, .ref lw]) Q E s := by
  obtain ⟨ps, hP, hK⟩ := tab_hid hP
  have hg5 : (hid s.heap 105).get? 105 = none := hideAll_none _ (.head _)
  unfold KK PR at *
  revert XB; k_fill; intro XB
  have upG := hid_up (P := 105) B.stays hb
  have X := XB.keeps B.stays
  have XG := XB.keeps upG
  have TG := TB.keeps upG
  have T := TB.keeps B.stays
  have CG := CB.keeps upG
  have BG := hid_below B hb hP
  have hlG := hid_list hP hl
  have hln := IntsAre.length ix
  refine wpAny_call ?_
  k_dflt (refine' enterH ?k3 ?k5 hP ?k6 ?k7 ?k8 ?k9 ?kB ?kD ?_ ?c2 ?c3 ?c4; (case k3 => exact X); (case k5 => exact T.nolimit); (case k6 => k_is); (case k7 => k_is); (case k8 => assumption); (case k9 => exact BindsTo.of_eq rfl); (case kB => exact rfl); (case kD => decide +kernel); (case c2 => exact rfl); (case c3 => exact rfl); (case c4 => exact rfl); k_whole; intro L' h' tk' cells' F' N' lP' Y'; k_cells Y'; (try simp only [List.cons_append, List.nil_append] at N'); (try dsimp only))
  clear X T
  rename_i o1 o2 e1 e2
  have ew : o1.data = .cell (some (.ref lw)) := e1
  have em : o2.data = .cell (some (.ref l)) := e2
  clear e1 e2
  repeat ((fail_if_success (with_reducible show wpAny _ _ (eval (Expr.Lambda _ _ _ _) _) _ _ _)); (first | (k_unfold; (try dsimp only)) | walk1 | (dsimp only; walk1)))
  k_dflt (refine' kla_eval ?d0 ?_; (case d0 => exact rfl))
  k_dflt (refine' lam_g (S := (hid s.heap 105).StaysIn) F' TG CG hg5 rfl rfl (N' _ (.tail _ (.tail _ (.head _)))).1 hK rfl ?_; k_whole)
  intro f' c' ct' h' tk' tab' cs' x1 x2 x3 x4
  have hF5 : ∀ b o, b ∉ [105] → s.heap.get? b = some o → _ := fun b o hm e => F'.keep _ _ (hideAll_get _ e hm)
  have hT5 := (N' _ (.tail _ (.tail _ (.head _)))).1
  have F'' := Fr.exP F' x1 hg5 (Nat.ne_of_gt lP')
  have N'' : News _ _ _ (_ :: _ :: _ :: _ :: cs') := lam_led (l' := [_, _]) N' F' hg5 (Nat.ne_of_gt lP') x1 x2 x3 (fun p hp => by
    rcases List.mem_cons.mp hp with rfl | hp
    · exact ⟨.head _, Nat.ne_of_gt (Nat.lt_trans lP' (Nat.lt_succ_of_lt (Nat.lt_succ_self _)))⟩
    · rw [List.mem_singleton.mp hp]; exact ⟨.tail _ (.head _), Nat.ne_of_gt (Nat.lt_succ_of_lt lP')⟩)
  clear F' N' x1 x2 x3
  repeat ((fail_if_success (with_reducible show wpAny _ _ (call (Value.ref 44) _) _ _ _)); (first | (k_unfold; (try dsimp only)) | walk1 | (dsimp only; walk1)))
  rename IsRange _ _ _ _ _ _ _ _ => hR
  rename Fr _ _ _ _ => Fz
  rename News _ _ _ _ => Nz
  rename Heap => hr
  refine reduce_range (V := fun i v news => news = [] ∧ ∃ t, v = .int (psum xs i) t) (pushX BG Fz rfl rfl) XB TB ?d1 ?d2 ?d3 (Nz _ (.head _)).1 rfl hA ?dn hR ⟨rfl, _, rfl⟩ ?his ?HF ?kk
  case dn => omega
  case d1 => show A.depth + 1 < _; omega
  case d2 => show A.units + 3 + 20 < _; omega
  case d3 => show A.units + 3 + 60 < _; omega
  case his => intro M A' E' s' Q' _ hq; exact wpAny_is_other rfl (by intro h; cases h) hq
  case HF =>
    rintro i v x news h tk A' hd' hu' hA' ⟨rfl, tv, rfl⟩ _ st ⟨hi, tx, rfl⟩ Q' E' kq
    refine wpAny_call ?_
    have sg : (hid s.heap 105).StaysIn h := fun b o e => st b o (Fz.keep b o e)
    k_dflt (refine' enterL (TG.nolimit.keeps sg) (st _ _ (Nz _ (.head _)).1) (x4 h sg (st _ _ (Nz _ (.tail _ (.head _))).1) (fun p hp => st _ _ (Nz _ (.tail _ (.tail _ (.tail _ (.tail _ hp))))).1)).1 ?q1 ?q2 ?q3 ?_ ?q4 ?q5 ?q6 ?q7; (case q1 => (rw [hd']; show A.depth + 1 + 1 < _; omega)); (case q2 => exact rfl); (case q3 => exact locs rfl); (case q4 => exact rfl); (case q5 => exact rfl); (case q6 => exact rfl); (case q7 => decide); k_whole; intro L2 h2 F2; (try dsimp only))
    have up2 : ∀ b o, hr.get? b = some o → h2.get? b = some o := fun b o e => F2.keep _ _ (st b o e)
    have cw := up2 _ _ (Nz _ (.tail _ (.tail _ (.head _)))).1
    have cm := up2 _ _ (Nz _ (.tail _ (.tail _ (.tail _ (.head _))))).1
    have hw2 := (hw.hid hP).keeps (fun b o e => F2.keep _ _ (sg b o e))
    have hl2 := Heap.IsList.at hlG (fun o e => F2.keep _ _ (sg _ o e))
    repeat ((fail_if_success (with_reducible show wpAny _ _ (eval (Expr.Name (Str.ofString "ways") _) _) _ _ _)); (first | (k_unfold; (try dsimp only)) | walk1 | (dsimp only; walk1)))
    with_unfolding_all refine wpAny_Name (wpAny_loadName_free rfl rfl rfl ⟨o1, cw, ew⟩ ?_)
    repeat ((fail_if_success (with_reducible show wpAny _ _ (eval (Expr.Name (Str.ofString "marks") _) _) _ _ _)); (first | (k_unfold; (try dsimp only)) | walk1 | (dsimp only; walk1)))
    with_unfolding_all refine wpAny_Name (wpAny_loadName_free rfl rfl rfl ⟨o2, cm, em⟩ ?_)
    repeat ((fail_if_success (with_reducible show wpAny _ _ (subscriptTail _ _ _ _) _ _ _)); (first | (k_unfold; (try dsimp only)) | walk1 | (dsimp only; walk1)))
    have hix : i < xs.length := hi
    obtain ⟨hx0, hx20⟩ := hx (xs.getD i 0) (by rw [List.getD_eq_getElem?_getD, List.getElem?_eq_getElem hix]; exact List.getElem_mem hix)
    obtain ⟨ta, xa⟩ := ix.get i (xs.getD i 0) (getD_get hix)
    refine item_at (vs := vs) hl2 (by omega) (by omega) (by rw [Int.toNat_natCast]; exact xa) ?_
    repeat ((fail_if_success (with_reducible show wpAny _ _ (subscriptTail _ _ _ _) _ _ _)); (first | (k_unfold; (try dsimp only)) | walk1 | (dsimp only; walk1)))
    obtain ⟨rs, hrs, ⟨nw, h3⟩, h4⟩ := hw2
    have hjr : (xs.getD i 0).toNat < rs.length := by omega
    obtain ⟨us, nu, h5, h6⟩ := h4 _ rs[(xs.getD i 0).toNat] (List.getElem?_eq_getElem hjr)
    refine item_at (vs := rs.map Value.ref) ⟨_, h3, rfl, nw, rfl⟩ hx0 (by omega) (by rw [List.getElem?_map, List.getElem?_eq_getElem hjr]; rfl) ?_
    repeat ((fail_if_success (with_reducible show wpAny _ _ (subscriptTail _ _ _ _) _ _ _)); (first | (k_unfold; (try dsimp only)) | walk1 | (dsimp only; walk1)))
    obtain ⟨tb, xb⟩ := h6.get (i + 1) ((wrow (xs.getD i 0).toNat).getD (i + 1) 0) (getD_get (by rw [wrow_len]; omega))
    refine item_at (vs := us) ⟨_, h5, rfl, nu, rfl⟩ (by omega) (by omega) (by rw [show ((i : Int) + 1).toNat = i + 1 by omega]; exact xb) ?_
    repeat ((fail_if_success (with_reducible show Q' _ _)); (first | (k_unfold; (try dsimp only)) | walk1 | (dsimp only; walk1)))
    exact kq _ [] h2 _ ⟨rfl, _, rfl⟩ F2.keep (fun _ hq => nomatch hq)
  case kk =>
    rintro v news h' tk' ⟨rfl, tv, rfl⟩ st _
    repeat (first | (k_unfold; (try dsimp only)) | walk1 | (dsimp only; walk1))
    exact k _ _ _ (fun b o hm e => st _ _ (Fz.keep _ _ (hideAll_get _ e hm))) ((x4 h' (fun b o e => st b o (Fz.keep b o e)) (st _ _ (Nz _ (.tail _ (.head _))).1) (fun p hp => st _ _ (Nz _ (.tail _ (.tail _ (.tail _ (.tail _ hp))))).1)).2.base hP hT5 hF5)
end Mine
end
section
open PySem PySem.W PySem.Calls PyProof.Rows
set_option Elab.async false
set_option maxRecDepth 100000
set_option maxHeartbeats 4000000
set_option linter.unusedVariables false
set_option linter.unusedSimpArgs false
namespace Mine

noncomputable def cands (k : Nat) (r : Int) : List Int := ((List.range 20).map fun n : Nat => (n : Int)).filter fun n => decide ((wrow n.toNat).getD k 0 ≤ r)
noncomputable def BackRel (c : Nat) (pl : Int) : Nat → List Int → Int → Prop
  | 0, ms, r => ms = [] ∧ r = pl
  | i + 1, ms, r => ∃ ms' r' M, BackRel c pl i ms' r' ∧ M ∈ cands (c - i) r' ∧ (∀ a ∈ cands (c - i) r', a ≤ M) ∧ ms = ms' ++ [M] ∧ r = r' - (wrow M.toNat).getD (c - i) 0
noncomputable abbrev LBm (lm : Addr) (r : Str → Option Value) : Str → Option Value := fun n => if n = Str.ofString "marks" then some (.ref lm) else r n
theorem Fr.lbm {h₀ h : Heap} {L lm : Addr} {m : Str → Option Value} (F : Fr h₀ L h m) (e1 : m (Str.ofString "marks") = some (.ref lm)) : Fr h₀ L h (LBm lm m) := by
  have e : LBm lm m = m := by
    funext n
    by_cases h1 : n = Str.ofString "marks"
    · subst h1; rw [e1]; exact if_pos rfl
    · exact if_neg h1
  rw [e]; exact F
noncomputable def itD (c i : Nat) : Obj := { cls := .type "range_iterator", data := .fields #[rawInt ((c : Int) + (i : Int) * -1), rawInt ((c : Int) - (i : Int)), rawInt (-1)] }
theorem ints_range {vs : List Value} {n : Nat} (hl : vs.length = n) (hP : ∀ (j : Nat) (v : Value), vs[j]? = some v → j < n ∧ ∃ t, v = .int (0 + (j : Int) * 1) t) : IntsAre vs ((List.range n).map fun n : Nat => (n : Int)) := by
  induction n generalizing vs with
  | zero =>
    have : vs = [] := List.eq_nil_of_length_eq_zero hl
    subst this
    exact .nil
  | succ n ih =>
    have hne : vs ≠ [] := by intro e; rw [e] at hl; cases hl
    have hs := List.dropLast_concat_getLast hne
    obtain ⟨t, e⟩ := (hP n (vs.getLast hne) (by rw [List.getLast_eq_getElem hne, ← List.getElem?_eq_getElem]; congr 1; omega)).2
    rw [← hs, List.range_succ, List.map_append]
    refine IntsAre.append (ih (by rw [List.length_dropLast]; omega) fun j v hj => ?_) ?_
    · have hjl : j < vs.dropLast.length := by
        by_cases z : j < vs.dropLast.length
        · exact z
        · rw [List.getElem?_eq_none (by omega)] at hj; cases hj
      rw [List.length_dropLast] at hjl
      refine ⟨by omega, (hP j v ?_).2⟩
      rw [← hs, List.getElem?_append_left (by rw [List.length_dropLast]; omega)]
      exact hj
    · rw [e]
      have : (0 : Int) + (n : Int) * 1 = (n : Int) := by omega
      rw [this]
      exact .cons _ _ .nil
theorem wrow0 (k : Nat) (hk : 0 < k) : (wrow 0).getD k 0 = 0 := by
  match k, hk with
  | 1, _ => rfl
  | 2, _ => rfl
  | 3, _ => rfl
  | 4, _ => rfl
  | k + 5, _ => rfl
theorem cands_pos {k : Nat} {r : Int} (hr : 0 ≤ r) (hk : 0 < k) : 0 < (cands k r).length := by
  apply List.length_pos_of_mem (a := 0)
  refine List.mem_filter.mpr ⟨List.mem_map.mpr ⟨0, List.mem_range.mpr (by omega), rfl⟩, decide_eq_true ?_⟩
  rw [show (0 : Int).toNat = 0 from rfl, wrow0 k hk]
  exact hr
theorem cands_mem {k : Nat} {r M : Int} (h : M ∈ cands k r) : 0 ≤ M ∧ M < 20 ∧ (wrow M.toNat).getD k 0 ≤ r := by
  obtain ⟨h1, h2⟩ := List.mem_filter.mp h
  obtain ⟨n, h3, rfl⟩ := List.mem_map.mp h1
  have := List.mem_range.mp h3
  exact ⟨by omega, by omega, of_decide_eq_true h2⟩
theorem size_down {c : Nat} : Builtin.Range.rangeSize (c : Int) 0 (-1) = (c : Int) := by
  unfold Builtin.Range.rangeSize
  rw [if_neg (by decide)]
  by_cases h : (c : Int) > 0
  · rw [if_pos h, show (-(-1) : Int) = 1 from rfl, Int.ediv_one]; omega
  · rw [if_neg h]; omega
theorem small_down {c : Nat} (h : c ≤ 4) : Builtin.Range.small (c : Int) 0 (-1) = true := by
  unfold Builtin.Range.small
  rw [size_down]
  unfold Builtin.Range.rangeFitsLong
  simp
  omega
noncomputable def BackJ (L I : Addr) (ow : Obj) (c : Nat) (pl : Int) (i : Nat) (m : Str → Option Value) (news : List (Addr × Obj)) : Prop :=
  ∃ lm nm ok orr, ∃ Mv : List Value, ∃ Mi rest tr v0 r, m = LBm lm r ∧ news = [(lm, W.listOf Mv.toArray nm), (L + 1 + 1 + 1, ok), (L + 1 + 1, orr), (L + 1, ow)] ∧ orr.data = .cell (some (.int rest tr)) ∧ ok.data = .cell v0 ∧ IntsAre Mv Mi ∧ Mi.length = i ∧ 0 ≤ rest ∧
    (L + 1 + 1 + 1 < lm ∧ L + 1 + 1 < lm ∧ L + 1 < lm) ∧ (∀ p ∈ news, p.1 < I) ∧ BackRel c pl i Mi rest
theorem BackJ.mk {L I : Addr} {ow : Obj} {c : Nat} {pl : Int} {i : Nat} {lm : Addr} {nm : Nat} {ok orr : Obj} {Mv : List Value} {Mi : List Int} {rest : Int} {tr : Tok} {v0 : Option Value} {r : Str → Option Value} (h1 : orr.data = .cell (some (.int rest tr))) (h2 : ok.data = .cell v0) (h3 : IntsAre Mv Mi) (h4 : Mi.length = i) (h5 : 0 ≤ rest)
    (h6 : L + 1 + 1 + 1 < lm ∧ L + 1 + 1 < lm ∧ L + 1 < lm) (h7 : ∀ p ∈ [(lm, W.listOf Mv.toArray nm), (L + 1 + 1 + 1, ok), (L + 1 + 1, orr), (L + 1, ow)], p.1 < I) (h8 : BackRel c pl i Mi rest) : BackJ L I ow c pl i (LBm lm r) [(lm, W.listOf Mv.toArray nm), (L + 1 + 1 + 1, ok), (L + 1 + 1, orr), (L + 1, ow)] :=
  ⟨lm, nm, ok, orr, Mv, Mi, rest, tr, v0, r, rfl, rfl, h1, h2, h3, h4, h5, h6, h7, h8⟩
theorem BackJ.elim {L I : Addr} {ow : Obj} {c : Nat} {pl : Int} {i : Nat} {m : Str → Option Value} {news : List (Addr × Obj)} {C : Prop} (h : BackJ L I ow c pl i m news)
    (f : ∀ lm nm ok orr Mv Mi rest tr v0 r, m = LBm lm r → news = [(lm, W.listOf Mv.toArray nm), (L + 1 + 1 + 1, ok), (L + 1 + 1, orr), (L + 1, ow)] → orr.data = .cell (some (.int rest tr)) → ok.data = .cell v0 → IntsAre Mv Mi → Mi.length = i → 0 ≤ rest →
      (L + 1 + 1 + 1 < lm ∧ L + 1 + 1 < lm ∧ L + 1 < lm) → (∀ p ∈ news, p.1 < I) → BackRel c pl i Mi rest → C) : C := by
  obtain ⟨lm, nm, ok, orr, Mv, Mi, rest, tr, v0, r, h1, h2, h3, h4, h5, h6, h7, h8, h9, h10⟩ := h
  exact f _ _ _ _ _ _ _ _ _ _ h1 h2 h3 h4 h5 h6 h7 h8 h9 h10
theorem backI {a b c d I : Addr} {o1 o2 o3 o4 : Obj} (h1 : a < I) (h2 : b < I) (h3 : c < I) (h4 : d < I) : ∀ p ∈ [(a, o1), (b, o2), (c, o3), (d, o4)], p.1 < I := by
  intro q hq
  rcases List.mem_cons.mp hq with rfl | hq
  · exact h1
  · rcases List.mem_cons.mp hq with rfl | hq
    · exact h2
    · rcases List.mem_cons.mp hq with rfl | hq
      · exact h3
      · rw [List.mem_singleton.mp hq]; exact h4
theorem back_spec {w : World} {A : Around} {s : Shared} {base : Heap} {outer : List Env} {p : Program} {loose : List Str} {mean : ExcName → Option Value} {mg mb : Str → Option Value} {Q E : Value → Shared → Prop} (B : Below A base outer s.heap) (XB : (KK w).In base) (TB : Top p loose mean mg mb base) (hd : A.depth < recursionLimit) (hu : A.units + 20 < cLine) (hu2 : A.units + 100 < cLine) (hA : A.handled = none)
   {lw : Addr} {pl : Int} {tp tc : Tok} {c : Nat} (hw : WaysAt s.heap lw) (hc : c ≤ 4) (hpl : 0 ≤ pl)
   (k : ∀ h' tk l vs ms r, s.heap.StaysIn h' → h'.get? l = some (W.listOf vs.toArray 0) → IntsAre vs ms.reverse → BackRel c pl c ms r → s.heap.get? l = none → Q (.ref l) { s with heap := h', toks := tk }) :
   wpAny (model PR w) A (call (.ref 115) [.int pl tp, .int c tc, .ref lw]) Q E s := by
  unfold KK PR at *
  revert XB; k_fill; intro XB
  have X := XB.keeps B.stays
  have T := TB.keeps B.stays
  refine wpAny_call ?_
  k_dflt (refine' enterC ?k3 ?k5 ?k6 ?k7 ?k8 ?k9 ?kB ?kD ?_ ?c2 ?c3 ?c4; (case k3 => exact X); (case k5 => exact T.nolimit); (case k6 => k_is); (case k7 => k_is); (case k8 => assumption); (case k9 => exact BindsTo.of_eq rfl); (case kB => exact rfl); (case kD => decide +kernel); (case c2 => exact rfl); (case c3 => exact rfl); (case c4 => exact rfl); k_whole; intro L' h' tk' cells' F' N' Y'; k_cells Y'; (try dsimp only))
  rename_i o1 o2 o3 e1 e2 e3
  have ew : o3.data = .cell (some (.ref lw)) := e3
  have ek : ∃ v0, o1.data = .cell v0 := ⟨_, e1⟩
  clear e3
  repeat ((fail_if_success (with_reducible show wpAny _ _ (exec (Stmt.For _ _ _ _ _) _) _ _ _)); (first | (k_unfold; (try dsimp only)) | walk1 | (dsimp only; walk1)))
  with_unfolding_all refine For_invT s.heap ?_ (by intro _; rfl) (by passes_own)
  repeat ((fail_if_success (with_reducible show wpAny _ _ (pyIter _) _ _ _)); (first | (k_unfold; (try dsimp only)) | walk1 | (dsimp only; walk1)))
  rename IsRange _ _ _ _ _ _ _ _ => hR
  rename Fr _ _ _ _ => Fz
  rename News _ _ _ _ => Nz
  rename _ < _ ∧ _ => l7
  rename _ = Data.cell (some (Value.int pl tp)) => er
  rename Heap => hY
  refine wpAny_pyIter_range hR (small_down hc) ?_
  rw [size_down]
  obtain ⟨v0, ek⟩ := ek
  refine loopAtT _ ([_]) ([_]) c _ _ _ _ (BackJ L' hY.objs.size o3 c pl) rfl ((Walks.range (show (A.deeper _).handled = none from hA) _ c (-1) c).bound) ?_ ?_ ?_ ?_ (Fr.lbm (Fz.push _) (if_pos rfl)) (Nz.grown (fun _ _ e => Heap.get?_push_of_some _ e)) ?_ ?_ ?_ ?_
  · intro hm
    exact absurd (List.mem_singleton.mp hm ▸ Fz.ns.lt) (Nat.lt_irrefl _)
  · intro b hb
    rw [List.mem_singleton.mp hb]
    exact next_is_new Fz
  · intro p hp hm
    exact absurd (List.mem_singleton.mp hm ▸ Heap.lt_size (Nz p hp).1) (Nat.lt_irrefl _)
  · show IsRangeIter _ _ _ _ _
    have := Heap.get?_push_size (h := hY) (o := { cls := .type "range_iterator", data := .fields #[rawInt (c : Int), rawInt (c : Int), rawInt (-1)] }) rfl
    simpa using this
  · intro i s' v Q' _ hq; exact wpAny_pure hq
  · exact BackJ.mk (c := c) (pl := pl) (i := 0) (Mv := []) (Mi := []) er ek .nil rfl hpl l7 (fun p hp => Heap.lt_size (Nz p hp).1) ⟨rfl, rfl⟩
  · rintro i v m₁ news₁ ⟨h₁, g₁, d₁, tk₁, os₁⟩ own hi ⟨_, t, rfl⟩ hJ
    refine hJ.elim ?_
    clear hJ
    rintro lm nm ok orr Mv Mi rest tr v0 r rfl rfl hor hok iM hMl hr0 l8 hnI hrel hnw hown hown2 hown3 hst F₁ N₁
    have hin : s.heap.get? hY.objs.size = none := next_is_new Fz
    have N₂ : News s.heap L' h₁ ((hY.objs.size, itD c (i + 1)) :: [(lm, W.listOf Mv.toArray nm), (L' + 1 + 1 + 1, ok), (L' + 1 + 1, orr), (L' + 1, o3)]) := fun q hq => by
      rcases List.mem_cons.mp hq with rfl | hq
      · exact N₁ _ (List.mem_append_left _ (hown3 _ (.head _) hin _ hst))
      · exact N₁ q (List.mem_append_right _ hq)
    have hown4 : ∀ q ∈ own, q = (hY.objs.size, itD c (i + 1)) := fun q hq => Prod.ext (List.mem_singleton.mp (hown q hq)) (by
      have h1 := hown2 q hq
      rw [List.mem_singleton.mp (hown q hq)] at h1
      exact Option.some.inj (h1.symm.trans hst))
    have lI1 := hnI _ (.head _)
    have lI2 := hnI _ (.tail _ (.head _))
    have lI3 := hnI _ (.tail _ (.tail _ (.head _)))
    have lI4 := hnI _ (.tail _ (.tail _ (.tail _ (.head _))))
    clear N₁ hst hown3 hown2 Fz Nz
    repeat ((fail_if_success (with_reducible show wpAny _ _ (eval (Expr.ListComp _ _ _ _) _) _ _ _)); (first | (k_unfold; (try dsimp only)) | walk1 | (dsimp only; walk1)))
    rename _ = Data.cell (some (Value.int (_ + _) _)) => dk
    rename Fr _ _ _ _ => F₃
    rename News _ _ _ _ => N₃
    with_unfolding_all refine wpAny_ListComp_free (intOk fun n => decide ((wrow n.toNat).getD (c - i) 0 ≤ rest)) (fun a b => a = b) rfl (by decide) rfl (by decide) rfl ?_
    repeat ((fail_if_success (with_reducible show wpAny _ _ (pyIter _) _ _ _)); (first | (k_unfold; (try dsimp only)) | walk1 | (dsimp only; walk1)))
    rename IsRange _ _ _ _ _ _ _ _ => hR2
    rename Fr _ _ _ _ => Fy
    rename News _ _ _ _ => Ny
    rename Heap => hV
    refine wpAny_pyIter_range hR2 rfl ?_
    refine ex6 _ ([_]) ([_]) 20 _ _ ⟨rfl, (Walks.range (show (A.deeper _).handled = none from hA) _ 0 1 20).bound, by decide, ?_, ?_, ⟨?_, ?_⟩, ?_⟩
    · show IsRangeIter _ _ _ _ _
      exact Heap.get?_push_size _ rfl
    · intro b hb
      rw [List.mem_singleton.mp hb, Heap.size_push]
      exact Nat.lt_succ_self _
    · intro C i' v s₃ m₃ E' hC hP hn hm hk htk
      obtain ⟨hi', t', rfl⟩ := hP
      have up : ∀ b o, hV.get? b = some o → s₃.heap.get? b = some o := fun b o e => hk b o (fun hm => by
        rw [List.mem_singleton] at hm
        exact absurd (hm ▸ Heap.lt_size e) (Nat.lt_irrefl _)) (Heap.get?_push_of_some _ e)
      refine wpAny_tests_one (wpAny_isTrue_Compare1 ?_)
      repeat ((fail_if_success (with_reducible show wpAny _ _ (eval (Expr.Name _ _) _) _ _ _)); (first | (k_unfold; (try dsimp only)) | walk1 | (dsimp only; walk1)))
      with_unfolding_all refine wpAny_Name (wpAny_loadName_cell (c := L' + 1) rfl rfl rfl ⟨o3, up _ _ (Ny _ (.tail _ (.tail _ (.tail _ (.tail _ (.head _)))))).1, ew⟩ ?_)
      repeat ((fail_if_success (with_reducible show wpAny _ _ (eval (Expr.Name _ _) _) _ _ _)); (first | (k_unfold; (try dsimp only)) | walk1 | (dsimp only; walk1)))
      with_unfolding_all refine wpAny_Name (wpAny_loadName_local rfl rfl hn hm ?_)
      repeat ((fail_if_success (with_reducible show wpAny _ _ (subscriptTail _ _ _ _) _ _ _)); (first | (k_unfold; (try dsimp only)) | walk1 | (dsimp only; walk1)))
      obtain ⟨rs, hrs, ⟨nw, h3⟩, h4⟩ := hw
      have hjr : ((0 : Int) + (i' : Int) * 1).toNat < rs.length := by omega
      obtain ⟨us, nu, h5, h6⟩ := h4 _ rs[((0 : Int) + (i' : Int) * 1).toNat] (List.getElem?_eq_getElem hjr)
      refine item_at (vs := rs.map Value.ref) ⟨_, up _ _ (Fy.keep _ _ h3), rfl, nw, rfl⟩ (by omega) (by omega) (by rw [List.getElem?_map, List.getElem?_eq_getElem hjr]; rfl) ?_
      repeat ((fail_if_success (with_reducible show wpAny _ _ (eval (Expr.Name _ _) _) _ _ _)); (first | (k_unfold; (try dsimp only)) | walk1 | (dsimp only; walk1)))
      with_unfolding_all refine wpAny_Name (wpAny_loadName_cell (c := L' + 1 + 1 + 1) rfl rfl rfl ⟨_, up _ _ (Ny _ (.tail _ (.tail _ (.head _)))).1, dk⟩ ?_)
      repeat ((fail_if_success (with_reducible show wpAny _ _ (subscriptTail _ _ _ _) _ _ _)); (first | (k_unfold; (try dsimp only)) | walk1 | (dsimp only; walk1)))
      obtain ⟨tb, xb⟩ := h6.get (c - i) _ (getD_get (by rw [wrow_len]; omega))
      refine item_at (vs := us) ⟨_, up _ _ (Fy.keep _ _ h5), rfl, nu, rfl⟩ (by omega) (by omega) (by rw [show ((c : Int) + (i : Int) * -1).toNat = c - i by omega]; exact xb) ?_
      repeat ((fail_if_success (with_reducible show wpAny _ _ (eval (Expr.Name _ _) _) _ _ _)); (first | (k_unfold; (try dsimp only)) | walk1 | (dsimp only; walk1)))
      with_unfolding_all refine wpAny_Name (wpAny_loadName_cell (c := L' + 1 + 1) rfl rfl rfl ⟨_, up _ _ (Ny _ (.tail _ (.tail _ (.tail _ (.head _))))).1, hor⟩ ?_)
      repeat ((fail_if_success (with_reducible show _ ∧ _)); (first | (k_unfold; (try dsimp only)) | walk1 | (dsimp only; walk1)))
      exact ⟨rfl, _, _, rfl, fun _ _ e => e⟩
    · intro C i' v s₃ m₃ E' hC hP hp hn hm hk htk
      with_unfolding_all refine wpAny_Name (wpAny_loadName_local rfl rfl hn hm ?_)
      exact ⟨rfl, _, _, rfl, fun _ _ e => e⟩
    · intro D h₂ tk₂ ys₂ vs₂ hD hl hpl hlen2 hP hF hk
      have ihead := ints_filter (fun n => decide ((wrow n.toNat).getD (c - i) 0 ≤ rest)) (ints_range hlen2 hP)
      obtain ⟨n₂, hpl⟩ := hpl
      have e3 : ys₂ = (vs₂.filter (intOk fun n => decide ((wrow n.toNat).getD (c - i) 0 ≤ rest))).toArray := by rw [paired_eq hF]
      subst e3
      have up2 : ∀ b o, hV.get? b = some o → h₂.get? b = some o := fun b o e => hk b o (fun hm => by
        rw [List.mem_singleton] at hm
        exact absurd (hm ▸ Heap.lt_size e) (Nat.lt_irrefl _)) (Heap.get?_push_of_some _ e)
      have fD : ∀ b o, hV.get? b = some o → b ≠ D := fun b o e q => by
        rw [q] at e
        exact absurd ((Heap.get?_push_of_some _ e).symm.trans hD) (by intro h; cases h)
      have F₄ := Fy.keeps up2
      have N₄ := news_more Fy Ny up2 fD hpl
      repeat ((fail_if_success (with_reducible show wpAny _ _ (call _ _) _ _ _)); (first | (k_unfold; (try dsimp only)) | walk1 | (dsimp only; walk1)))
      refine kso_max F₄ N₄ ⟨_, hpl, rfl, _, rfl⟩ ihead (cands_pos hr0 (by omega)) (show (A.deeper _).handled = none from hA) fun h₅ M tM tk₅ F₅ N₅ hM hMle => ?_
      have N₆ := fun q hq => N₅ q (.tail _ hq)
      have N₆ : News s.heap L' h₅ [(hY.objs.size, itD c (i + 1)), (lm, W.listOf Mv.toArray nm), (L' + 1 + 1 + 1, _), (L' + 1 + 1, orr), (L' + 1, o3)] := N₆
      have F₆ := F₅
      clear F₄ N₄ N₅ F₅
      obtain ⟨hM0, hM20, hMr⟩ := cands_mem hM
      repeat ((fail_if_success (with_reducible show wpAny _ _ (subscriptTail _ _ _ _) _ _ _)); (first | (k_unfold; (try dsimp only)) | walk1 | (dsimp only; walk1)))
      rename Fr _ _ _ _ => F₇
      obtain ⟨rs, hrs, ⟨nw, h3⟩, h4⟩ := hw
      have hjr : M.toNat < rs.length := by omega
      obtain ⟨us, nu, h5, h6⟩ := h4 _ rs[M.toNat] (List.getElem?_eq_getElem hjr)
      refine item_at (vs := rs.map Value.ref) ⟨_, F₇.keep _ _ h3, rfl, nw, rfl⟩ (by omega) (by omega) (by rw [List.getElem?_map, List.getElem?_eq_getElem hjr]; rfl) ?_
      repeat ((fail_if_success (with_reducible show wpAny _ _ (subscriptTail _ _ _ _) _ _ _)); (first | (k_unfold; (try dsimp only)) | walk1 | (dsimp only; walk1)))
      obtain ⟨tb, xb⟩ := h6.get (c - i) _ (getD_get (by rw [wrow_len]; omega))
      refine item_at (vs := us) ⟨_, F₇.keep _ _ h5, rfl, nu, rfl⟩ (by omega) (by omega) (by rw [show ((c : Int) + (i : Int) * -1).toNat = c - i by omega]; exact xb) ?_
      repeat ((fail_if_success (with_reducible show wpAny _ _ (call _ _) _ _ _)); (first | (k_unfold; (try dsimp only)) | walk1 | (dsimp only; walk1)))
      rename Fr _ _ _ _ => F₈
      rename News _ _ _ _ => N₈
      rename _ = Data.cell (some (Value.int (_ - _) _)) => dr
      refine append_K F₈ N₈ (upd_split (own := [_]) (rest := [_, _, _]) ?_ ?_) (fun h₉ F₉ N₉ => ?_) ?_
      · intro q hq
        rw [List.mem_singleton.mp hq]
        exact Nat.ne_of_gt lI1
      · intro q hq
        rcases List.mem_cons.mp hq with rfl | hq
        · exact Nat.ne_of_lt l8.1
        · rcases List.mem_cons.mp hq with rfl | hq
          · exact Nat.ne_of_lt l8.2.1
          · rw [List.mem_singleton.mp hq]
            exact Nat.ne_of_lt l8.2.2
      · rw [List.push_toArray] at N₉
        repeat ((fail_if_success (with_reducible show LoopStepU _ _ _ _ _ _ _ _)); (first | (k_unfold; (try dsimp only)) | walk1 | (dsimp only; walk1)))
        have N₁₀ : News s.heap L' h₉ (own ++ [(lm, W.listOf (Mv ++ [Value.int M tM]).toArray (nm + 1)), (L' + 1 + 1 + 1, _), (L' + 1 + 1, _), (L' + 1, o3)]) := fun q hq => by
          rcases List.mem_append.mp hq with hq | hq
          · rw [hown4 q hq]
            exact N₉ _ (.head _)
          · exact N₉ q (.tail _ hq)
        refine LoopStepU.intro (Fr.lbm F₉ rfl) N₁₀ (fun q hq hm => ?_) (BackJ.mk (c := c) (pl := pl) (i := i + 1) dr dk (iM.append (.cons _ _ .nil)) (by rw [List.length_append, hMl]; rfl) (by omega) l8 (backI lI1 lI2 lI3 lI4) ⟨Mi, rest, M, hrel, hM, hMle, rfl, rfl⟩)
        exact Nat.ne_of_lt (backI lI1 lI2 lI3 lI4 q hq) (List.mem_singleton.mp hm)
      · rw [List.size_toArray, iM.length, hMl]
        show _ ≤ 16777216
        omega
  · rintro h₁ tk₁ m₁ news₁ F₁ N₁ hnw hJ
    refine hJ.elim ?_
    clear hJ
    rintro lm nm ok orr Mv Mi rest tr v0 r rfl rfl hor hok iM hMl hr0 l8 hnI hrel
    repeat (first | (k_unfold; (try dsimp only)) | walk1 | (dsimp only; walk1))
    rename Fr _ _ _ _ => F₃
    rename News _ _ _ _ => N₃
    rename IntsAre _ (List.reverse _) => i₃
    exact k _ _ _ _ _ _ F₃.keep (N₃ _ (.head _)).1 i₃ hrel (N₃ _ (.head _)).2.2
end Mine
end
section
open PySem PySem.W PySem.Calls PyProof.Rows
set_option Elab.async false
set_option maxRecDepth 100000
set_option linter.unusedVariables false
namespace Mine
noncomputable def back1 (env : Env) (K : Flow → Sem PySem.Fin) (H : Value → Sem PySem.Fin) (gd : Bool → Bool) (lv : List Value → List Value) : Result → Sem PySem.Fin := fun r => ((match r with | .ok f => (.pure f : Sem Flow) | .error e => .raise e).onRaise fun (x : Value) => do
        if (← field x 1) == Value.none then unsupported "frame.own-activation:exception-without-traceback"
        setFlight x env.frame).wrap K H gd lv
section
variable {M : Model} {A : Around} {R : GenEnd} {Y : Protocol} {n : Nat} {s₀ : Shared} {c : Code} {fs : List Frame} {s : Shared} {env : Env}
  {K : Flow → Sem PySem.Fin} {H : Value → Sem PySem.Fin} {gd : Bool → Bool} {lv : List Value → List Value}
theorem seg_If {test : PySem.Expr} {body orelse : List Stmt} {pos : Pos}
    (h : wpAny M (A.over c fs) (PySem.isTrue test env (eval test env)) (fun b s' => if b = true then Seg M A R Y n s₀ c ((execs body env).wrap K H gd lv) fs s' else Seg M A R Y n s₀ c ((execs orelse env).wrap K H gd lv) fs s')
      (fun x s' => Seg M A R Y n s₀ c (H x) fs s') s) :
    Seg M A R Y n s₀ c ((exec (.If test body orelse pos) env).wrap K H gd lv) fs s := by
  rw [exec_If]
  refine seg_at ?_
  show Seg M A R Y n s₀ c ((PySem.isTrue test env (eval test env) >>= fun b => if b = true then execs body env else execs orelse env).wrap K H gd lv) fs s
  rw [Sem.bind_eq_wrap', Sem.wrap_wrap]
  refine seg_wrap (wpAny_mono h (fun b s' hb => ?_) fun _ _ x => x)
  cases b with
  | true => rw [if_pos rfl] at hb; exact hb
  | false => rw [if_neg Bool.false_ne_true] at hb; exact hb
theorem seg_For {target iter : PySem.Expr} {body orelse : List Stmt} {pos : Pos}
    (h : wpAny M (A.over c fs) (eval iter env) (fun x s₁ => wpAny M (A.over c fs) (pyIter x) (fun it s₂ => ∀ p, Seg M A R Y n s₀ (.forLoop target it body orelse env) (M.den (.forLoop target it body orelse env)) (.ret (back1 env K H gd lv) none (gd false) (lv []) c p [] :: fs) s₂)
      (fun x s' => Seg M A R Y n s₀ c (H x) fs s') s₁) (fun x s' => Seg M A R Y n s₀ c (H x) fs s') s)
    (hs : ∀ x, foldedSetIterable iter env x = pure x) :
    Seg M A R Y n s₀ c ((exec (.For target iter body orelse pos) env).wrap K H gd lv) fs s := by
  rw [exec_For]
  refine seg_at ?_
  show Seg M A R Y n s₀ c ((eval iter env >>= fun v => foldedSetIterable iter env v >>= fun x => standAt iter.pos >>= fun _ => (holding [x] (pyIter x)) >>= fun it => runOwn (.forLoop target it body orelse env) env).wrap K H gd lv) fs s
  rw [Sem.bind_eq_wrap', Sem.wrap_wrap]
  refine seg_wrap (wpAny_mono h (fun x s₁ h₁ => ?_) fun _ _ x => x)
  rw [hs x]
  show Seg M A R Y n s₀ c ((standAt iter.pos >>= fun _ => (holding [x] (pyIter x)) >>= fun it => runOwn (.forLoop target it body orelse env) env).wrap K H gd lv) fs s₁
  refine seg_at ?_
  show Seg M A R Y n s₀ c (((holding [x] (pyIter x)) >>= fun it => runOwn (.forLoop target it body orelse env) env).wrap K H gd lv) fs s₁
  rw [Sem.bind_eq_wrap', Sem.wrap_wrap]
  refine seg_wrap (wpAny_holding (wpAny_mono h₁ (fun it s₂ h₂ => ?_) fun _ _ x => x))
  exact seg_call h₂
end
section
variable {prog : Program} {w : World} {A : Around} {R : GenEnd} {Y : Protocol} {n : Nat} {s₀ : Shared} {fs : List Frame} {s : Shared} {env : Env}
noncomputable def turnK (c : Code) : Flow → Sem PySem.Fin := fun f => match f with
  | .next | .cont => .pure (.again c)
  | .brk => .pure (.done .next)
  | .ret v => .pure (.done (.ret v))
noncomputable def turnH (env : Env) : Value → Sem PySem.Fin := fun e => (do noteFrame e env; theTreesLotGoes e : Sem Unit).wrap (fun _ => .raise e) .raise id id
noncomputable def forK (target : PySem.Expr) (it : Value) (body orelse : List Stmt) (env : Env) : Option Value → Sem PySem.Fin
  | none => .pure (.again (.block orelse env))
  | some v => letOwnedTupleGo target it v >>= fun _ => assign target env v >>= fun _ => execs body env >>= turnK (.forLoop target it body orelse env)
theorem forTurn_eq (target : PySem.Expr) (it : Value) (body orelse : List Stmt) (env : Env) :
    forTurn target it body orelse env = (standAt target.pos >>= fun _ => (pyNext it).onRaise (fun _ => standAt { target.pos with line := 0 }) >>= forK target it body orelse env) := by
  unfold forTurn
  refine congrArg _ (funext fun _ => congrArg _ (funext fun r => ?_))
  cases r with
  | none => rfl
  | some v =>
    refine congrArg _ (funext fun _ => congrArg _ (funext fun _ => congrArg _ (funext fun f => ?_)))
    cases f <;> rfl
theorem seg_forLoop {target : PySem.Expr} {it : Value} {body orelse : List Stmt} {Er : Value → Shared → Prop}
    (hEr : ∀ x s', Er x s' → False)
    (h : wpAny (model prog w) (A.over (.forLoop target it body orelse env) fs) (pyNext it) (fun r s₁ => match r with
      | none => Seg (model prog w) A R Y n s₀ (.block orelse env) ((model prog w).den (.block orelse env)) fs s₁
      | some v => wpAny (model prog w) (A.over (.forLoop target it body orelse env) fs) (letOwnedTupleGo target it v) (fun _ s₁' => wpAny (model prog w) (A.over (.forLoop target it body orelse env) fs) (assign target env v) (fun _ s₂ =>
          Seg (model prog w) A R Y n s₀ (.forLoop target it body orelse env) ((execs body env).wrap (turnK (.forLoop target it body orelse env)) (turnH env) id id) fs s₂) Er s₁') Er s₁) Er s) :
    Seg (model prog w) A R Y n s₀ (.forLoop target it body orelse env) ((model prog w).den (.forLoop target it body orelse env)) fs s := by
  show Seg _ A R Y n s₀ _ ((forTurn target it body orelse env).onRaise (fun x => do noteFrame x env; theTreesLotGoes x)) fs s
  rw [forTurn_eq, Sem.onRaise_eq_wrap]
  refine seg_at ?_
  show Seg _ A R Y n s₀ _ (((pyNext it).onRaise (fun _ => standAt { target.pos with line := 0 }) >>= forK target it body orelse env).wrap _ _ _ _) fs s
  rw [Sem.bind_eq_wrap', Sem.wrap_wrap]
  refine seg_wrap (wpAny_onRaise (wpAny_mono h (fun r s₁ h₁ => ?_) fun x s' e => (hEr x s' e).elim))
  cases r with
  | none => exact seg_again rfl h₁
  | some v =>
    show Seg _ A R Y n s₀ _ ((letOwnedTupleGo target it v >>= fun _ => assign target env v >>= fun _ => execs body env >>= turnK (.forLoop target it body orelse env)).wrap _ _ _ _) fs s₁
    rw [Sem.bind_eq_wrap', Sem.wrap_wrap]
    refine seg_wrap (wpAny_mono h₁ (fun _ s₁' h₁' => ?_) fun x s' e => (hEr x s' e).elim)
    show Seg _ A R Y n s₀ _ ((assign target env v >>= fun _ => execs body env >>= turnK (.forLoop target it body orelse env)).wrap _ _ _ _) fs s₁'
    rw [Sem.bind_eq_wrap', Sem.wrap_wrap]
    refine seg_wrap (wpAny_mono h₁' (fun _ s₂ h₂ => ?_) fun x s' e => (hEr x s' e).elim)
    show Seg _ A R Y n s₀ _ ((execs body env >>= turnK (.forLoop target it body orelse env)).wrap _ _ _ _) fs s₂
    rw [Sem.bind_eq_wrap', Sem.wrap_wrap]
    rw [Sem.wrap_congr (execs body env) _ _ (K' := turnK (.forLoop target it body orelse env)) (H' := turnH env) (fun f => by cases f <;> rfl)
      (fun e => by first | exact Sem.bind_eq_wrap _ _ | (show (do noteFrame e env; theTreesLotGoes e : Sem Unit).bind (fun _ => .raise e) = _; rw [Sem.bind_eq_wrap]; rfl))]
    exact h₂
end
end Mine
end
section
open PySem PySem.W PySem.Calls PyProof.Rows
set_option Elab.async false
set_option maxRecDepth 100000
set_option maxHeartbeats 4000000
set_option linter.unusedVariables false
set_option linter.unusedSimpArgs false
namespace Mine

inductive GS where
  | start
  | turn (i : Nat) (last : Option Int)
  | held (i : Nat) (v : Int)
  | stuck (l : Int)
noncomputable def stepAt (row : List Int) (i : Nat) (last : Option Int) : Option (Int × GS) := match row[i]? with
  | none => none
  | some v => if v = 127 then none else if v = 0 then last.map (fun l => (l, .stuck l)) else some (v, .held (i + 1) v)
noncomputable def nextG (row : List Int) : GS → Option (Int × GS)
  | .start => stepAt row 0 none
  | .turn i last => stepAt row i last
  | .held i v => stepAt row i (some v)
  | .stuck l => some (l, .stuck l)
noncomputable def seqG (row : List Int) : Nat → Option GS
  | 0 => some .start
  | j + 1 => (seqG row j).bind fun σ => (nextG row σ).map (·.2)
noncomputable def ItL (o : Obj) : Prop := o.cls = .type "list_iterator" ∧ ∃ vs, o.data = .fields vs
noncomputable def itL (l : Addr) (i : Nat) : Obj := { cls := .type "list_iterator", data := .fields #[.ref l, .int i 0] }
noncomputable abbrev LGm (v : Value) (r : Str → Option Value) : Str → Option Value := fun n => if n = Str.ofString "last_interval" then some v else r n
noncomputable def lastV : Option Int → Value → Prop
  | none, v => v = .none
  | some x, v => ∃ t, v = .int x t
noncomputable def GF (g : Heap) (L l I : Addr) (ks : List (Addr × Obj)) : GS → Heap → Prop
  | .start, h => (∃ r : Str → Option Value, Fr g L h (fun n => if n = Str.ofString "grouping" then some (.ref l) else r n)) ∧ News g L h ks
  | .turn i last, h => (last = none → i = 0) ∧ ∃ o v r, lastV last v ∧ Fr g L h (LGm v r) ∧ News g L h ((I, o) :: ks) ∧ (∀ p ∈ ks, p.1 ≠ I) ∧ o.cls = .type "list_iterator" ∧ o.data = .fields #[.ref l, .int i 0]
  | .held i x, h => ∃ (o : Obj) (t : Tok) (r : Str → Option Value), Fr g L h (fun n => if n = Str.ofString "interval" then some (.int x t) else r n) ∧ News g L h ((I, o) :: ks) ∧ (∀ p ∈ ks, p.1 ≠ I) ∧ o.cls = .type "list_iterator" ∧ o.data = .fields #[.ref l, .int i 0]
  | .stuck x, h => ∃ v r, lastV (some x) v ∧ Fr g L h (LGm v r) ∧ News g L h ks
noncomputable def RelG (L : Addr) (s₀ s : Shared) : Prop := ∃ h' tk, s = { s₀ with heap := h', toks := tk } ∧ ∀ b o, b ≠ L → ¬ItL o → s₀.heap.get? b = some o → h'.get? b = some o
noncomputable def SegAt (g : Heap) (L l I : Addr) (σ : GS) (s₀ s : Shared) : Prop := ∃ ks h tk, s = { s₀ with heap := h, toks := tk } ∧ g.StaysIn s₀.heap ∧ (∀ b o, b ≠ L → ¬ItL o → s₀.heap.get? b = some o → g.get? b = none → (b, o) ∈ ks) ∧ GF g L l I ks σ h
theorem GF.fr {g h : Heap} {L l I : Addr} {ks : List (Addr × Obj)} {σ : GS} (x : GF g L l I ks σ h) : ∃ m, Fr g L h m := by
  cases σ with
  | start => exact ⟨_, x.1.choose_spec⟩
  | turn i last => obtain ⟨_, o, v, r, _, F, _⟩ := x; exact ⟨_, F⟩
  | held i y => obtain ⟨o, u, r, F, _⟩ := x; exact ⟨_, F⟩
  | stuck y => obtain ⟨v, r, _, F, _⟩ := x; exact ⟨_, F⟩
theorem GF.nw {g h : Heap} {L l I : Addr} {ks : List (Addr × Obj)} {σ : GS} (x : GF g L l I ks σ h) : News g L h ks := by
  cases σ with
  | start => exact x.2
  | turn i last => obtain ⟨_, o, v, r, _, F, N, _⟩ := x; exact fun p hp => N p (.tail _ hp)
  | held i y => obtain ⟨o, u, r, F, N, _⟩ := x; exact fun p hp => N p (.tail _ hp)
  | stuck y => obtain ⟨v, r, _, F, N⟩ := x; exact N
theorem GF.bare {g h : Heap} {L l I : Addr} {ks : List (Addr × Obj)} {σ : GS} (x : GF g L l I ks σ h) : GF g L l I [] σ h := by
  cases σ with
  | start => exact ⟨x.1, News.nil⟩
  | turn i last => obtain ⟨a, o, v, r, b, F, N, _, c, d⟩ := x; exact ⟨a, o, v, r, b, F, fun p hp => by rw [List.mem_singleton.mp hp]; exact N _ (.head _), (fun _ hp => nomatch hp), c, d⟩
  | held i y => obtain ⟨o, u, r, F, N, _, c, d⟩ := x; exact ⟨o, u, r, F, fun p hp => by rw [List.mem_singleton.mp hp]; exact N _ (.head _), (fun _ hp => nomatch hp), c, d⟩
  | stuck y => obtain ⟨v, r, a, F, N⟩ := x; exact ⟨v, r, a, F, News.nil⟩
theorem SegAt.begin {g : Heap} {L l I : Addr} {σ : GS} {s : Shared} (x : GF g L l I [] σ s.heap) : SegAt g L l I σ s s := by
  obtain ⟨m, F⟩ := x.fr
  have hgL : ∀ (I : Addr) (o : Obj), News g L s.heap [(I, o)] → ItL o → ∀ b o', b ≠ L → ¬ItL o' → s.heap.get? b = some o' → b ≠ I := fun I o N hc b o' _ hc' e q => by
    rw [q, (N _ (.head _)).1] at e
    cases e
    exact hc' hc
  cases σ with
  | start =>
    refine ⟨ownOf g ((List.range s.heap.objs.size).filter fun b => b ≠ L) s.heap, s.heap, s.toks, rfl, F.keep, fun b o hb hc e hn => mem_ownOf (List.mem_filter.mpr ⟨List.mem_range.mpr (Heap.lt_size e), by simpa using hb⟩) hn e, x.1, news_ownOf (fun hm => by have := (List.mem_filter.mp hm).2; simp at this)⟩
  | turn i last =>
    obtain ⟨a, o, v, r, b, F, N, _, c, d⟩ := x
    refine ⟨ownOf g ((List.range s.heap.objs.size).filter fun b => b ≠ L ∧ b ≠ I) s.heap, s.heap, s.toks, rfl, F.keep, fun b o hb hc e hn => mem_ownOf (List.mem_filter.mpr ⟨List.mem_range.mpr (Heap.lt_size e), by simpa using ⟨hb, hgL _ _ N ⟨c, _, d⟩ b o hb hc e⟩⟩) hn e, a, o, v, r, b, F, fun p hp => ?_, fun p hp => ?_, c, d⟩
    · rcases List.mem_cons.mp hp with rfl | hp
      · exact N _ (.head _)
      · exact news_ownOf (fun hm => by have := (List.mem_filter.mp hm).2; simp at this) p hp
    · have := (List.mem_filter.mp (ownOf_sub p hp)).2
      simp at this
      exact this.2
  | held i y =>
    obtain ⟨o, u, r, F, N, _, c, d⟩ := x
    refine ⟨ownOf g ((List.range s.heap.objs.size).filter fun b => b ≠ L ∧ b ≠ I) s.heap, s.heap, s.toks, rfl, F.keep, fun b o hb hc e hn => mem_ownOf (List.mem_filter.mpr ⟨List.mem_range.mpr (Heap.lt_size e), by simpa using ⟨hb, hgL _ _ N ⟨c, _, d⟩ b o hb hc e⟩⟩) hn e, o, u, r, F, fun p hp => ?_, fun p hp => ?_, c, d⟩
    · rcases List.mem_cons.mp hp with rfl | hp
      · exact N _ (.head _)
      · exact news_ownOf (fun hm => by have := (List.mem_filter.mp hm).2; simp at this) p hp
    · have := (List.mem_filter.mp (ownOf_sub p hp)).2
      simp at this
      exact this.2
  | stuck y =>
    obtain ⟨v, r, a, F, N⟩ := x
    refine ⟨ownOf g ((List.range s.heap.objs.size).filter fun b => b ≠ L) s.heap, s.heap, s.toks, rfl, F.keep, fun b o hb hc e hn => mem_ownOf (List.mem_filter.mpr ⟨List.mem_range.mpr (Heap.lt_size e), by simpa using hb⟩) hn e, v, r, a, F, news_ownOf (fun hm => by have := (List.mem_filter.mp hm).2; simp at this)⟩
theorem relG_of {g h : Heap} {L : Addr} {ks : List (Addr × Obj)} {s₀ : Shared} {tk : Nat} {m : Str → Option Value} (hg : g.StaysIn s₀.heap) (hc : ∀ b o, b ≠ L → ¬ItL o → s₀.heap.get? b = some o → g.get? b = none → (b, o) ∈ ks) (F : Fr g L h m) (N : News g L h ks) : RelG L s₀ { s₀ with heap := h, toks := tk } := by
  refine ⟨h, tk, rfl, fun b o hb hcl e => ?_⟩
  cases q : g.get? b with
  | none => exact (N _ (hc b o hb hcl e q)).1
  | some o' =>
    have e1 := hg b o' q
    rw [e] at e1
    cases e1
    exact F.keep _ _ q
theorem SegAt.fin {g : Heap} {L l I : Addr} {σ : GS} {s₀ s : Shared} (x : SegAt g L l I σ s₀ s) : GF g L l I [] σ s.heap ∧ RelG L s₀ s := by
  obtain ⟨ks, h, tk, rfl, hg, hc, F⟩ := x
  refine ⟨F.bare, h, tk, rfl, fun b o hb hcl e => ?_⟩
  cases q : g.get? b with
  | none => exact (F.nw _ (hc b o hb hcl e q)).1
  | some o' =>
    obtain ⟨m, Fm⟩ := F.fr
    have e1 := hg b o' q
    rw [e] at e1
    cases e1
    exact Fm.keep _ _ q
noncomputable def Yg (row : List Int) (g : Heap) (L l : Addr) (N : Nat) : Protocol := fun m s₀ v s' kap =>
  ∃ I σ x σ', seqG row (N - 1 - m) = some σ ∧ nextG row σ = some (x, σ') ∧ (∃ t, v = .int x t) ∧ GF g L l I [] σ' s'.heap ∧ RelG L s₀ s' ∧ (m ≠ 0 → ∀ s'', GF g L l I [] σ' s''.heap → kap (.send .none) s'')
noncomputable def Rg (row : List Int) (g : Heap) (L : Addr) (N : Nat) : GenEnd := fun m s₀ r s' => r = .ok (.ret .none) ∧ (∃ σ, seqG row (N - m) = some σ ∧ nextG row σ = none) ∧ RelG L s₀ s' ∧ g.StaysIn s'.heap
section
variable {prog : Program} {w : World} {A : Around} {s : Shared} {K : Frag}
  {R : Result → Shared → Prop} {name qual : Str} {params : Arguments} {body : List Stmt} {scope : Scope} {dV kV doc pm cdv ct oc : Value} {an od : Option Addr} {osl : Array (Option Value)} {f : Addr} {args : Args} {binds : List (Str × Value)}
theorem genEnter (X : K.In s.heap) (hlim : s.heap.NoLimit)
    (ho : K.lookup f = some ⟨oc, od, .func (fnOf name qual params body scope dV kV doc pm an cdv ct), osl⟩) (hcd : codeIn K cdv qual = true) (hroom : A.depth < recursionLimit)
    (hbind : BindsTo s (fnOf name qual params body scope dV kV doc pm an cdv ct) args binds) (hloc : ∀ y ∈ binds, scope.names.lookup y.1 = some .local)
    (h : ∀ L' h₁, Fr s.heap L' h₁ (fun y => binds.reverse.lookup y) → L' = s.heap.objs.size →
      R (.ok (.ret (.ref h₁.objs.size))) { s with gens := s.gens.push (.fresh (.func body (envOf qual scope L' f cdv))), toks := s.toks + binds.length + 1 + 1, heap := h₁.push { cls := .type "generator", data := .fields #[.int s.gens.size 0, .str name (s.toks + binds.length), .str qual (s.toks + binds.length + 1)] } })
    (hcell : ∀ x ∈ scope.names, x.2 ≠ .cell) (hco : scope.isCoroutine = false) (hgen : scope.isGenerator = true) (hk : scope.kind = .function) : codeAny (model prog w) A (.call (.ref f) args) R s := by
  refine codeAny_call_generator hroom (X _ _ ho) rfl hco hgen rfl (codeRec_of X hcd) (hbind _ _ _ _ ?_)
  refine wpAny_newFunctionEnv hcell hloc (fun h₁ hns hsb => ⟨hlim.fresh _ hsb, ?_⟩) hk
  have hk₁ : ∀ b o, s.heap.get? b = some o → h₁.get? b = some o := fun b o e => hsb.extBut b o (Nat.ne_of_lt (Heap.lt_size e)) (Heap.get?_push_of_some _ e)
  exact h s.heap.objs.size h₁ ⟨hns, hk₁, Nat.le_refl _⟩ rfl
end
theorem Fr.ground {g h₀ h : Heap} {L : Addr} {m : Str → Option Value} (F : Fr h₀ L h m) (hg : g.StaysIn h₀) (hs : g.objs.size ≤ h₀.objs.size) : Fr g L h m := ⟨F.ns, fun b o e => F.keep b o (hg b o e), Nat.le_trans hs F.above⟩
theorem Fr.withN {h₀ h : Heap} {L : Addr} {m : Str → Option Value} {x : Str} {v : Value} (F : Fr h₀ L h m) (e1 : m x = some v) : Fr h₀ L h (fun n => if n = x then some v else m n) := by
  have e : (fun n => if n = x then some v else m n) = m := by
    funext n
    by_cases h1 : n = x
    · subst h1; rw [e1]; exact if_pos rfl
    · exact if_neg h1
  rw [e]; exact F
theorem Fr.lgm {h₀ h : Heap} {L : Addr} {v : Value} {m : Str → Option Value} (F : Fr h₀ L h m) (e1 : m (Str.ofString "last_interval") = some v) : Fr h₀ L h (LGm v m) := Fr.withN F e1
theorem seqG_succ {row : List Int} {N n : Nat} {σ σ' : GS} {x : Int} (h : n + 1 ≤ N) (e1 : seqG row (N - (n + 1)) = some σ) (e2 : nextG row σ = some (x, σ')) : seqG row (N - n) = some σ' := by
  have : N - n = (N - (n + 1)) + 1 := by omega
  rw [this]
  show (seqG row (N - (n + 1))).bind _ = _
  rw [e1]
  show (nextG row σ).map _ = _
  rw [e2]
  rfl
theorem loop_key2 {M : Model} {A : Around} {R : GenEnd} {Y : Protocol} {c : Code} {t : Sem PySem.Fin} {fs : List Frame} {P : Nat → Shared → Shared → Prop} {N : Nat} {s₀ s : Shared} (h : P N s₀ s) (key : ∀ n s₀ s, P n s₀ s → Seg M A R Y (n + 1) s₀ c t fs s) : Seg M A R Y (N + 1) s₀ c t fs s := key _ _ _ h
theorem loop_key {M : Model} {A : Around} {R : GenEnd} {Y : Protocol} {c : Code} {t : Sem PySem.Fin} {fs : List Frame} {P : Nat → Nat → Option Int → Shared → Shared → Prop} {N i : Nat} {last : Option Int} {s₀ s : Shared} (h : P N i last s₀ s) (key : ∀ n i last s₀ s, P n i last s₀ s → Seg M A R Y (n + 1) s₀ c t fs s) : Seg M A R Y (N + 1) s₀ c t fs s := key _ _ _ _ _ h
theorem gen_spec {w : World} {A : Around} {s : Shared} {base : Heap} {outer : List Env} {p : Program} {loose : List Str} {mean : ExcName → Option Value} {mg mb : Str → Option Value} {Q E : Value → Shared → Prop} (B : Below A base outer s.heap) (XB : (KK w).In base) (TB : Top p loose mean mg mb base) (hd : A.depth < recursionLimit) (hu : A.units + 20 < cLine) (hA : A.handled = none) {l : Addr} {vs : List Value} {row : List Int} (hl : s.heap.IsList l vs.toArray) (ix : IntsAre vs row) (h0 : row[0]? ≠ some 0) (N : Nat)
   (g : Heap) (hg : g.StaysIn s.heap) (XG : (KK w).In g) (TG : Top p loose mean mg mb g) (hlg : g.IsList l vs.toArray) (gsz : g.objs.size ≤ s.heap.objs.size)
   (k : ∀ h' tk a L gs, s.heap.StaysIn h' → h'.IsGen a s.gens.size → gs.bare = true → GF g L l 0 [] .start h' → (∀ A' s'', A'.handled = none → GF g L l 0 [] .start s''.heap → gs.Goes (model PR w) A' (Rg row g L (N + 1)) (Yg row g L l (N + 1)) (N + 1) (.send .none) s'') →
     s.heap.get? a = none → s.heap.get? L = none → Q (.ref a) { s with heap := h', gens := s.gens.push gs, toks := tk }) :
   wpAny (model PR w) A (call (.ref 51) [.ref l]) Q E s := by
  unfold KK PR at *
  revert XB; k_fill; intro XB
  have X := XB.keeps B.stays
  have T := TB.keeps B.stays
  refine wpAny_call ?_
  k_dflt (refine' genEnter ?k3 ?k5 ?k6 ?k7 ?k8 ?k9 ?kB ?_ ?c2 ?c3 ?c4 ?c5; (case k3 => exact X); (case k5 => exact T.nolimit); (case k6 => k_is); (case k7 => k_is); (case k8 => assumption); (case k9 => exact BindsTo.of_eq rfl); (case kB => exact locs rfl); (case c2 => decide); (case c3 => exact rfl); (case c4 => exact rfl); (case c5 => exact rfl); k_whole; intro L' h' F' e'; (try dsimp only))
  refine k _ _ _ L' _ (fun b o e => Heap.get?_push_of_some _ (F'.keep b o e)) ⟨_, _, _, Heap.get?_push_size _ rfl, rfl, rfl, rfl⟩ rfl ⟨⟨_, Fr.withN (Fr.ground (F'.push _) hg gsz) rfl⟩, News.nil⟩ ?_ ?_ ?_
  · intro A' s₁ hA' hF
    refine ⟨rfl, ?_⟩
    refine (fun (key : ∀ s₀, SegAt g L' l 0 .start s₀ s₁ → Seg _ _ _ _ _ s₀ _ _ _ s₁) => key s₁ (SegAt.begin hF)) ?_
    rintro s₀ ⟨ks, h₁, t₁, rfl, hgs, hcov, ⟨r, F₁⟩, N₁⟩
    clear F'
    refine seg_func (seg_execs_cons (seg_wrap ?_))
    repeat ((fail_if_success (with_reducible show Seg _ _ _ _ _ _ _ _ _ _)); (first | (k_unfold; (try dsimp only)) | walk1 | (dsimp only; walk1)))
    refine seg_execs_cons (seg_For ?_ (by intro _; rfl))
    rename Fr _ _ _ _ => F₂
    rename News _ _ _ _ => N₂
    repeat ((fail_if_success (with_reducible show wpAny _ _ (pyIter _) _ _ _)); (first | (k_unfold; (try dsimp only)) | walk1 | (dsimp only; walk1)))
    rename Heap => h₂
    refine wpAny_pyIter_list (F₂.lst hlg) ?_
    intro p
    have hF₃ : ∀ tk, SegAt g L' l h₂.objs.size (.turn 0 none) s₀ { s₀ with heap := h₂.push { cls := .type "list_iterator", data := .fields #[.ref l, .int 0 0] }, toks := tk } := fun tk =>
      ⟨ks, _, tk, rfl, hgs, hcov, fun _ => rfl, _, .none, _, rfl, Fr.withN (F₂.push _) rfl, News.push F₂ N₂ _ rfl, fun p hp => Nat.ne_of_lt (Heap.lt_size (N₂ p hp).1), rfl, rfl⟩
    refine loop_key (P := fun n i last s₀ s => n ≤ N ∧ (∃ σ, seqG row (N - n) = some σ ∧ nextG row σ = stepAt row i last) ∧ SegAt g L' l h₂.objs.size (.turn i last) s₀ s) ⟨Nat.le_refl _, ⟨.start, by rw [Nat.sub_self]; rfl, rfl⟩, hF₃ _⟩ ?_
    clear hF₃ F₂ N₂ hcov hgs
    generalize h₂.objs.size = I
    intro n
    induction n using Nat.strongRecOn with
    | ind n ih =>
      rintro i last s₀ _ ⟨hn, hσ, ks, h₁, t₁, rfl, hgs, hcov, hli, o, v, r, hv, F₁, N₁, hnI, oc, od⟩
      refine seg_forLoop (Er := fun _ _ => False) (fun _ _ e => e) ?_
      by_cases hi : i < row.length
      · obtain ⟨ti, xi⟩ := ix.get i (row.getD i 0) (getD_get hi)
        refine wpAny_pyNext_list_item (x := .int (row.getD i 0) ti) (i := i) ⟨_, (N₁ _ (.head _)).1, oc, od⟩ (F₁.lst hlg) (by simpa using xi) fun h₂ hit hs => ?_
        obtain ⟨o', ho', oc', od'⟩ := hit
        have F₂ := F₁.change hs (N₁ _ (.head _)).2.1 (N₁ _ (.head _)).2.2
        have N₂ : News g L' h₂ ((I, o') :: ks) := fun q hq => by
          rcases List.mem_cons.mp hq with rfl | hq
          · exact ⟨ho', (N₁ _ (.head _)).2⟩
          · exact ⟨hs.extBut _ _ (hnI q hq) (N₁ q (.tail _ hq)).1, (N₁ q (.tail _ hq)).2⟩
        refine wpAny_pure ?_
        repeat ((fail_if_success (with_reducible show Seg _ _ _ _ _ _ _ _ _ _)); (first | (k_unfold; (try dsimp only)) | walk1 | (dsimp only; walk1)))
        refine seg_execs_cons (seg_If ?_)
        repeat ((fail_if_success (with_reducible show Seg _ _ _ _ _ _ _ _ _ _)); (first | (k_unfold; (try dsimp only)) | walk1 | (dsimp only; walk1)))
        · rename_i h127
          rename Fr _ _ _ _ => F₃
          rename News _ _ _ _ => N₃
          refine seg_execs_cons (seg_wrap ?_)
          repeat ((fail_if_success (with_reducible show Seg _ _ _ _ _ _ _ _ _ _)); (first | (k_unfold; (try dsimp only)) | walk1 | (dsimp only; walk1)))
          refine seg_leaf (.ok (.ret .none)) ?_
          refine seg_end (.ok (.ret .none)) ⟨rfl, ?_, relG_of hgs hcov F₃ (fun q hq => N₃ q (.tail _ hq)), F₃.keep⟩
          obtain ⟨σ, e1, e2⟩ := hσ
          refine ⟨σ, by rw [← e1]; congr 1; omega, ?_⟩
          rw [e2]
          unfold stepAt
          rw [getD_get hi]
          exact if_pos h127
        · rename_i h127
          refine seg_execs_nil ?_
          refine seg_execs_cons (seg_If ?_)
          repeat ((fail_if_success (with_reducible show Seg _ _ _ _ _ _ _ _ _ _)); (first | (k_unfold; (try dsimp only)) | walk1 | (dsimp only; walk1)))
          · rename_i hz
            rename Fr _ _ _ _ => F₃
            rename News _ _ _ _ => N₃
            cases last with
            | none =>
              exfalso
              have i0 := hli rfl
              subst i0
              exact h0 (by rw [getD_get hi, hz])
            | some y =>
              obtain ⟨ty, rfl⟩ := hv
              refine seg_execs_cons (seg_If ?_)
              repeat ((fail_if_success (with_reducible show Seg _ _ _ _ _ _ _ _ _ _)); (first | (k_unfold; (try dsimp only)) | walk1 | (dsimp only; walk1)))
              refine seg_execs_nil ?_
              refine seg_execs_cons (seg_While ?_)
              intro p2
              obtain ⟨σ, e1, e2⟩ := hσ
              have e3 : stepAt row i (some y) = some (y, .stuck y) := by
                unfold stepAt
                rw [getD_get hi]
                show (if _ then _ else _) = _
                rw [if_neg h127, if_pos hz]
                rfl
              have hS : ∀ tk, SegAt g L' l I (.stuck y) s₀ { s₀ with heap := _, toks := tk } := fun tk => ⟨ks, _, tk, rfl, hgs, hcov, _, _, ⟨ty, rfl⟩, Fr.lgm F₃ rfl, fun q hq => N₃ q (.tail _ hq)⟩
              refine loop_key2 (P := fun n s₀ s => n ≤ N ∧ (∃ σ, seqG row (N - n) = some σ ∧ nextG row σ = some (y, .stuck y)) ∧ SegAt g L' l I (.stuck y) s₀ s) ⟨hn, ⟨σ, e1, e2.trans e3⟩, hS _⟩ ?_
              clear hS F₃ N₃ e1 e2 e3 ih hcov hgs
              intro n
              induction n using Nat.strongRecOn with
              | ind n ih =>
                rintro s₀ _ ⟨hn, ⟨σ, e1, e2⟩, ks, h₁, t₁, rfl, hgs, hcov, v, r, ⟨tv, rfl⟩, F₁, N₁⟩
                refine seg_whileLoop ?_
                repeat ((fail_if_success (with_reducible show Seg _ _ _ _ _ _ _ _ _ _)); (first | (k_unfold; (try dsimp only)) | walk1 | (dsimp only; walk1)))
                refine seg_execs_cons (seg_Expr_Yield rfl rfl rfl ?_)
                (first | (k_unfold; (try dsimp only)) | walk1 | (dsimp only; walk1))
                intro kap hkap
                have hS : ∀ tk, SegAt g L' l I (.stuck y) s₀ { s₀ with heap := h₁, toks := tk } := fun tk => ⟨ks, _, tk, rfl, hgs, hcov, _, _, ⟨tv, rfl⟩, F₁, N₁⟩
                refine ⟨I, σ, _, _, (show N + 1 - 1 - n = N - n by omega) ▸ e1, e2, ⟨_, rfl⟩, (hS _).fin.1, (hS _).fin.2, fun hn0 s'' hF'' => hkap .none s'' ?_⟩
                obtain ⟨n', rfl⟩ : ∃ n', n = n' + 1 := ⟨n - 1, by omega⟩
                refine seg_execs_nil (seg_again rfl ?_)
                exact ih n' (Nat.lt_succ_self _) _ _ ⟨by omega, ⟨_, seqG_succ hn e1 e2, rfl⟩, SegAt.begin hF''⟩
          · rename_i hz
            rename Fr _ _ _ _ => F₃
            rename News _ _ _ _ => N₃
            refine seg_execs_nil ?_
            refine seg_execs_cons (seg_Expr_Yield rfl rfl rfl ?_)
            (first | (k_unfold; (try dsimp only)) | walk1 | (dsimp only; walk1))
            intro kap hkap
            have hS : ∀ tk, SegAt g L' l I (.held (i + 1) (row.getD i 0)) s₀ { s₀ with heap := _, toks := tk } := fun tk => ⟨ks, _, tk, rfl, hgs, hcov, _, ti, _, Fr.withN F₃ rfl, N₃, hnI, oc', od'⟩
            obtain ⟨σ, e1, e2⟩ := hσ
            have e3 : stepAt row i last = some (row.getD i 0, .held (i + 1) (row.getD i 0)) := by
              unfold stepAt
              rw [getD_get hi]
              show (if _ then _ else _) = _
              rw [if_neg h127, if_neg hz]
            refine ⟨I, σ, _, _, (show N + 1 - 1 - n = N - n by omega) ▸ e1, e2.trans e3, ⟨_, rfl⟩, (hS _).fin.1, (hS _).fin.2, fun hn0 s'' hF'' => hkap .none s'' ?_⟩
            obtain ⟨n', rfl⟩ : ∃ n', n = n' + 1 := ⟨n - 1, by omega⟩
            refine (fun (key : ∀ s₀, SegAt g L' l I (.held (i + 1) (row.getD i 0)) s₀ s'' → Seg _ _ _ _ _ s₀ _ _ _ s'') => key s'' (SegAt.begin hF'')) ?_
            clear hS hF'' hkap F₃ N₃
            rintro s₁ ⟨ks1, h4, t4, rfl, hgs1, hcov1, o4, u4, r4, F₄, N₄, hnI4, oc4, od4⟩
            refine seg_execs_cons (seg_wrap ?_)
            repeat ((fail_if_success (with_reducible show Seg _ _ _ _ _ _ _ _ _ _)); (first | (k_unfold; (try dsimp only)) | walk1 | (dsimp only; walk1)))
            rename Fr _ _ _ _ => F₅
            rename News _ _ _ _ => N₅
            refine seg_execs_nil (seg_again rfl ?_)
            exact ih n' (Nat.lt_succ_self _) (i + 1) (some (row.getD i 0)) _ _ ⟨by omega, ⟨_, seqG_succ hn e1 (e2.trans e3), rfl⟩, ks1, _, _, rfl, hgs1, hcov1, (fun h => nomatch h), o4, _, _, ⟨u4, rfl⟩, Fr.lgm F₅ rfl, N₅, hnI4, oc4, od4⟩
      · refine wpAny_pyNext_list_end (i := i) (show (A'.over _ _).handled = none from hA') ⟨_, (N₁ _ (.head _)).1, oc, od⟩ (F₁.lst hlg) (by simpa using (by rw [ix.length]; omega)) fun h₂ hs => ?_
        show Seg _ _ _ _ _ _ _ (.pure (.done .next)) _ _
        refine seg_leaf (.ok .next) ?_
        have F₂ : Fr g L' h₂ (LGm v r) := ⟨F₁.ns.at' fun o e => hs _ _ (fun q => (N₁ _ (.head _)).2.1 q.symm) e, fun b o e => hs _ _ (fun q => by have := (N₁ _ (.head _)).2.2; rw [← q, e] at this; cases this) (F₁.keep b o e), F₁.above⟩
        refine seg_end (.ok (.ret .none)) ⟨rfl, ?_, relG_of hgs hcov F₂ (fun q hq => ⟨hs _ _ (hnI q hq) (N₁ q (.tail _ hq)).1, (N₁ q (.tail _ hq)).2⟩), F₂.keep⟩
        obtain ⟨σ, e1, e2⟩ := hσ
        refine ⟨σ, by rw [← e1]; congr 1; omega, ?_⟩
        rw [e2]
        unfold stepAt
        rw [List.getElem?_eq_none (by omega)]
  · exact Heap.get?_none_of_le (by rw [e'] at F'; exact Nat.le_of_lt F'.ns.lt)
  · exact Heap.get?_none_of_le (by rw [e']; exact Nat.le_refl _)
end Mine
end
section
open PySem PySem.W PySem.Calls PyProof.Rows
set_option Elab.async false
set_option maxRecDepth 100000
set_option linter.unusedVariables false
namespace Mine
section
variable {prog : Program} {w : World} {A : Around} {E : Value → Shared → Prop} {s : Shared}
theorem pyNext_bare {a : Addr} {g n : Nat} {gs : GenState} {P : Nat → Shared → Shared → Prop} {Y : Protocol} {Q : Option Value → Shared → Prop} (hh : A.handled = none)
    (hl : s.heap.NoLimit) (hroom : A.depth < recursionLimit) (hg : s.heap.IsGen a g) (hgs : s.gens[g]? = some gs)
    (hgo : gs.Goes (model prog w) A.in1 (fun n s₀ r s₁ => r = .ok (.ret .none) ∧ P n s₀ s₁) Y n (.send .none) (s.setGen g .running))
    (hY : ∀ v s₁ gs', gs'.bare = true → Y (n - 1) (s.setGen g .running) v s₁ (fun r' s'' => match n with
        | 0 => False
        | m + 1 => gs'.Goes (model prog w) A.in1 (fun n s₀ r s₁ => r = .ok (.ret .none) ∧ P n s₀ s₁) Y m r' s'') → Q (some v) (s₁.setGen g gs'))
    (hP : ∀ s₁, P n (s.setGen g .running) s₁ → ∀ h', (∀ b o, s₁.heap.get? b = some o → h'.get? b = some o) → Q none { s₁.setGen g .finished with heap := h' }) :
    wpAny (model prog w) A (pyNext (.ref a)) Q E s := by
  unfold pyNext
  refine wpAny_bind (wpAny_attempt (wpAny_callSpecial?_slot (name := Str.ofString "__next__") hg.typeIs slot_gen_next (wpAny_call_entry slot_gen_next hg.typeIs entry_gen_next ?_ (args_gen_next _))))
  show wpAny _ A.in1 (Builtin.Generator.genWake (.ref a) (.send .none)) _ _ s
  unfold Builtin.Generator.genWake
  refine wpAny_bind (wpAny_holding (wpAny_genNumber hg (wpAny_bind (wpAny_genState hgs ?_))))
  cases gs with
  | running => exact hgo.elim
  | finished => exact hgo.elim
  | _ =>
    refine wpAny_bind (wpAny_roomToWake hl hroom ?_)
    show wpAny _ _ (.resume g (.send .none) [] _) _ _ s
    refine wpAny_resumeQ hgs hgo (fun x s₁ hx => ?_) (fun v s₁ gs' hb hv => ?_)
    · obtain ⟨rfl, hp⟩ := hx
      show wpAny _ _ (newExc (.type "StopIteration") [] >>= _) _ _ _
      refine wpAny_bind ?_
      simp only [newExc, newTuple]
      refine wpAny_bind (wpAny_newObj_type ?_ (by size_fits))
      refine wpAny_bind (m := firstArgMember _ _) (wpAny_of_eq (a := Value.none) (by first | rfl | (simp only [firstArgMember]; rfl)) ?_)
      refine wpAny_newObj_type ?_ (by size_fits)
      simp only [raiseNew]
      refine wpAny_bind (wpAny_bind (wpAny_handled ?_))
      rw [show A.in1.handled = none from hh]
      refine wpAny_throw ?_
      refine wpAny_bind (wpAny_isInstance (T := "StopIteration") (b := true) ⟨_, Heap.get?_push_size _ rfl, rfl⟩ isSubtype_stop ?_)
      exact wpAny_pure (hP s₁ hp _ fun b o hb => Heap.get?_push_of_some _ (Heap.get?_push_of_some _ hb))
    · exact wpAny_pure ⟨v, rfl, wpAny_pure (hY v s₁ gs' hb hv)⟩
end
theorem last_push {G : Array GenState} {x : GenState} : (G.push x)[G.size]? = some x := by simp
theorem set_last {h : Heap} {G : Array GenState} {x y : GenState} {d : Drawn} {t : Nat} {os : OsState} : (⟨h, G.push x, d, t, os⟩ : Shared).setGen G.size y = ⟨h, G.push y, d, t, os⟩ := by
  have e : (G.push x).setIfInBounds G.size y = G.push y := by
    apply Array.toList_inj.mp
    rw [Array.toList_setIfInBounds, Array.toList_push, Array.toList_push, ← Array.length_toList, List.set_append_right _ _ (Nat.le_refl _), Nat.sub_self]
    rfl
  unfold Shared.setGen
  exact congrArg (fun z => (⟨h, z, d, t, os⟩ : Shared)) e
end Mine
end
section
open PySem PySem.W PySem.Calls PyProof.Rows
set_option Elab.async false
set_option maxRecDepth 100000
set_option maxHeartbeats 4000000
set_option linter.unusedVariables false
set_option linter.unusedSimpArgs false
namespace Mine

noncomputable def pulls (row : List Int) : Nat → GS → List Int
  | 0, _ => []
  | n + 1, σ => match nextG row σ with
    | none => []
    | some (x, σ') => x :: pulls row n σ'
noncomputable def sums (a : Int) : List Int → List Int
  | [] => []
  | x :: xs => (a + x) :: sums (a + x) xs
theorem pulls_none {row : List Int} {n : Nat} {σ : GS} (h : nextG row σ = none) : pulls row (n + 1) σ = [] := by unfold pulls; rw [h]
theorem pulls_some {row : List Int} {n : Nat} {σ σ' : GS} {x : Int} (h : nextG row σ = some (x, σ')) : pulls row (n + 1) σ = x :: pulls row n σ' := by rw [pulls, h]
noncomputable abbrev SZm (ls : Addr) (r : Str → Option Value) : Str → Option Value := fun n => if n = Str.ofString "sizes" then some (.ref ls) else r n
theorem Fr.szm {h₀ h : Heap} {L lm : Addr} {m : Str → Option Value} (F : Fr h₀ L h m) (e1 : m (Str.ofString "sizes") = some (.ref lm)) : Fr h₀ L h (SZm lm m) := Fr.withN F e1
theorem GF.carry {g h : Heap} {L l I : Addr} {σ : GS} (x : GF g L l I [] σ h) : ∃ own : List (Addr × Obj), (∀ p ∈ own, h.get? p.1 = some p.2 ∧ g.get? p.1 = none ∧ (p.1 = L ∨ ItL p.2)) ∧ ∀ h', g.StaysIn h' → (∀ p ∈ own, h'.get? p.1 = some p.2) → GF g L l I [] σ h' := by
  obtain ⟨m, F⟩ := x.fr
  obtain ⟨oL, es, ep, ho, hd⟩ := F.ns
  have nL : g.get? L = none := Heap.get?_none_of_le F.above
  have fr : ∀ m, Fr g L h m → ∀ h', g.StaysIn h' → h'.get? L = some oL → Fr g L h' m := fun m F h' st e => ⟨F.ns.at' fun o e1 => by rw [ho] at e1; cases e1; exact e, st, F.above⟩
  cases σ with
  | start =>
    refine ⟨[(L, oL)], fun p hp => ?_, fun h' st hp => ⟨x.1.imp fun r F => fr _ F h' st (hp _ (.head _)), News.nil⟩⟩
    rw [List.mem_singleton.mp hp]; exact ⟨ho, nL, .inl rfl⟩
  | turn i last =>
    obtain ⟨a, o, v, r, b, F, N, _, c, d⟩ := x
    refine ⟨[(L, oL), (I, o)], fun p hp => ?_, fun h' st hp => ⟨a, o, v, r, b, fr _ F h' st (hp _ (.head _)), fun q hq => ?_, (fun _ hp => nomatch hp), c, d⟩⟩
    · rcases List.mem_cons.mp hp with rfl | hp
      · exact ⟨ho, nL, .inl rfl⟩
      · rw [List.mem_singleton.mp hp]; exact ⟨(N _ (.head _)).1, (N _ (.head _)).2.2, .inr ⟨c, _, d⟩⟩
    · rw [List.mem_singleton.mp hq]; exact ⟨hp _ (.tail _ (.head _)), (N _ (.head _)).2⟩
  | held i y =>
    obtain ⟨o, u, r, F, N, _, c, d⟩ := x
    refine ⟨[(L, oL), (I, o)], fun p hp => ?_, fun h' st hp => ⟨o, u, r, fr _ F h' st (hp _ (.head _)), fun q hq => ?_, (fun _ hp => nomatch hp), c, d⟩⟩
    · rcases List.mem_cons.mp hp with rfl | hp
      · exact ⟨ho, nL, .inl rfl⟩
      · rw [List.mem_singleton.mp hp]; exact ⟨(N _ (.head _)).1, (N _ (.head _)).2.2, .inr ⟨c, _, d⟩⟩
    · rw [List.mem_singleton.mp hq]; exact ⟨hp _ (.tail _ (.head _)), (N _ (.head _)).2⟩
  | stuck y =>
    obtain ⟨v, r, a, F, N⟩ := x
    refine ⟨[(L, oL)], fun p hp => ?_, fun h' st hp => ⟨v, r, a, fr _ F h' st (hp _ (.head _)), News.nil⟩⟩
    rw [List.mem_singleton.mp hp]; exact ⟨ho, nL, .inl rfl⟩
noncomputable def WJ (A' : Around) (w : World) (row : List Int) (s : Shared) (g : Heap) (LW ls a L l : Addr) (oa tab : Obj) (n : Nat) (s' : Shared) : Prop :=
  ∃ j h tk σ I gs, ∃ vs : List Value, ∃ xs nn m, n = 5 - j ∧ j < 4 ∧ s' = { s with heap := h, gens := s.gens.push gs, toks := tk } ∧ seqG row j = some σ ∧ pulls row 4 .start = xs ++ pulls row (4 - j) σ ∧ xs.length = j ∧ IntsAre vs xs ∧ gs.bare = true ∧
    (∀ s'', GF g L l I [] σ s''.heap → gs.Goes (model PR w) A'.in1 (Rg row g L 4) (Yg row g L l 4) (4 - j) (.send .none) s'') ∧
    Fr g LW h (SZm ls m) ∧ News g LW h [(ls, W.listOf vs.toArray nn), (74, tab), (a, oa)] ∧ GF g L l I [] σ h
theorem set_lastA {α : Type} {G : Array α} {x y : α} : (G.push x).setIfInBounds G.size y = G.push y := by
  apply Array.toList_inj.mp
  rw [Array.toList_setIfInBounds, Array.toList_push, Array.toList_push, ← Array.length_toList, List.set_append_right _ _ (Nat.le_refl _), Nat.sub_self]
  rfl
theorem setgen2 {s : Shared} {h h₂ : Heap} {tk tk₂ : Nat} {gs x gs' : GenState} : ({ ({ s with heap := h, gens := s.gens.push gs, toks := tk } : Shared).setGen s.gens.size x with heap := h₂, toks := tk₂ } : Shared).setGen s.gens.size gs' = { s with heap := h₂, gens := s.gens.push gs', toks := tk₂ } := by
  unfold Shared.setGen
  simp only [set_lastA]
theorem setgenF {s : Shared} {h h₂ h₃ : Heap} {tk tk₂ : Nat} {gs x gs' : GenState} : ({ ({ ({ s with heap := h, gens := s.gens.push gs, toks := tk } : Shared).setGen s.gens.size x with heap := h₂, toks := tk₂ } : Shared).setGen s.gens.size gs' with heap := h₃ } : Shared) = { s with heap := h₃, gens := s.gens.push gs', toks := tk₂ } := by
  rw [setgen2]
theorem Fr.rel {g h h₂ : Heap} {L' L : Addr} {m : Str → Option Value} (F : Fr g L' h m) (q : L' ≠ L) (hrel : ∀ b o, b ≠ L → ¬ItL o → h.get? b = some o → h₂.get? b = some o) (st : g.StaysIn h₂) : Fr g L' h₂ m := by
  refine ⟨F.ns.at' fun o e => hrel _ _ q (fun hi => ?_) e, st, F.above⟩
  obtain ⟨o', es, ep, ho, hd, _⟩ := F.ns
  rw [e] at ho; cases ho
  rw [hi.2.choose_spec] at hd; cases hd
theorem newsW {g h h₂ : Heap} {L' L ls a : Addr} {args : Array Value} {its : Array Value} {nn : Nat} {oa : Obj} (N : News g L' h [(ls, W.listOf its nn), (74, tabObj args), (a, oa)]) (q1 : ls ≠ L) (q2 : 74 ≠ L) (aL : a ≠ L) (gc : oa.cls = .type "generator") (hrel : ∀ b o, b ≠ L → ¬ItL o → h.get? b = some o → h₂.get? b = some o) : News g L' h₂ [(ls, W.listOf its nn), (74, tabObj args), (a, oa)] := by
  intro q hq
  rcases List.mem_cons.mp hq with rfl | hq
  · exact ⟨hrel _ _ q1 (fun hi => nomatch hi.2.choose_spec) (N _ (.head _)).1, (N _ (.head _)).2⟩
  · rcases List.mem_cons.mp hq with rfl | hq
    · exact ⟨hrel _ _ q2 (fun hi => nomatch hi.1) (N _ (.tail _ (.head _))).1, (N _ (.tail _ (.head _))).2⟩
    · rw [List.mem_singleton.mp hq]
      exact ⟨hrel _ _ aL (fun hi => by have := hi.1; rw [gc] at this; injection this with h; exact absurd h (by decide)) (N _ (.tail _ (.tail _ (.head _)))).1, (N _ (.tail _ (.tail _ (.head _)))).2⟩
theorem with_fin {M : Model} {A : Around} {c : Code} {R : Result → Shared → Prop} {s : Shared} {P : Shared → Prop} (fin : ∀ s', P s' → R (.ok .next) s') (key : (∀ s', P s' → R (.ok .next) s') → codeAny M A c R s) : codeAny M A c R s := key fin
noncomputable def WEnd (row : List Int) (s : Shared) (g : Heap) (LW ls : Addr) (tab : Obj) (s' : Shared) : Prop :=
  ∃ h tk gs, ∃ vs : List Value, ∃ nn m, s' = { s with heap := h, gens := s.gens.push gs, toks := tk } ∧ gs.bare = true ∧ IntsAre vs (pulls row 4 .start) ∧ Fr g LW h (SZm ls m) ∧ News g LW h [(ls, W.listOf vs.toArray nn), (74, tab)]
noncomputable def accs (xs : List Int) (i : Nat) : List Int := (-1) :: sums (-1) (xs.take i)
noncomputable def VW (xs : List Int) (ll : Addr) (i : Nat) (v : Value) (news : List (Addr × Obj)) : Prop :=
  (i = 0 ∧ v = .ref ll ∧ news = []) ∨ ∃ D, ∃ ws : List Value, v = .ref D ∧ news = [(D, W.listOf ws.toArray 0)] ∧ IntsAre ws (accs xs i)
theorem sums_len : ∀ (xs : List Int) (a : Int), (sums a xs).length = xs.length
  | [], _ => rfl
  | x :: xs, a => by unfold sums; rw [List.length_cons, List.length_cons, sums_len xs]
theorem accs_len {xs : List Int} {i : Nat} (h : i ≤ xs.length) : (accs xs i).length = i + 1 := by
  unfold accs; rw [List.length_cons, sums_len, List.length_take]; omega
theorem sums_snoc : ∀ (xs : List Int) (a x : Int), sums a (xs ++ [x]) = sums a xs ++ [(a :: sums a xs).getD xs.length 0 + x]
  | [], _, _ => rfl
  | y :: ys, a, x => by
    show (a + y) :: sums (a + y) (ys ++ [x]) = _
    rw [sums_snoc ys]; rfl
theorem accs_succ {xs : List Int} {i : Nat} (h : i < xs.length) : accs xs (i + 1) = accs xs i ++ [(accs xs i).getD i 0 + xs.getD i 0] := by
  unfold accs
  rw [List.take_succ, getD_get h, Option.toList_some, sums_snoc, List.length_take, Nat.min_eq_left (Nat.le_of_lt h)]
  rfl
theorem pulls_len (row : List Int) : ∀ (n : Nat) (σ : GS), (pulls row n σ).length ≤ n
  | 0, _ => Nat.le_refl _
  | n + 1, σ => by
    cases e : nextG row σ with
    | none => rw [pulls_none e]; exact Nat.zero_le _
    | some p => rw [pulls_some (x := p.1) (σ' := p.2) e, List.length_cons]; exact Nat.succ_le_succ (pulls_len row n p.2)
theorem walked_spec {w : World} {A : Around} {s : Shared} {base : Heap} {outer : List Env} {p : Program} {loose : List Str} {mean : ExcName → Option Value} {mg mb : Str → Option Value} {Q E : Value → Shared → Prop} (B : Below A base outer s.heap) (XB : (KK w).In base) (TB : Top p loose mean mg mb base) (hd : A.depth < recursionLimit) (hu : A.units + 20 < cLine) (hdp : A.depth + 100 < recursionLimit) (hu2 : A.units + 100 < cLine) (hA : A.handled = none) (CB : CodeHd base 78 74) (hb : base.get? 74 = none) (hP : TabOk 74 107 18 (Str.ofString "_law_walked.<locals>.<lambda>") s.heap)
   {l : Addr} {vs : List Value} {row : List Int} (hl : s.heap.IsList l vs.toArray) (ix : IntsAre vs row) (h0 : row[0]? ≠ some 0)
   (k : ∀ h' tk gs D (ws : List Value), gs.bare = true → Ex [74] s.heap h' → TabStep 74 107 18 (Str.ofString "_law_walked.<locals>.<lambda>") s.heap h' → s.heap.get? D = none → h'.get? D = some (W.listOf ws.toArray 0) → IntsAre ws (sums (-1) (pulls row 4 .start)) → Q (.ref D) { s with heap := h', gens := s.gens.push gs, toks := tk }) :
   wpAny (model PR w) A (call (.ref 79) [.ref l]) Q E s := by
  obtain ⟨args, hP, hK⟩ := tab_hid hP
  have hg5 : (hid s.heap 74).get? 74 = none := hideAll_none _ (.head _)
  unfold KK PR at *
  revert XB; k_fill; intro XB
  have upG := hid_up (P := 74) B.stays hb
  have X := XB.keeps B.stays
  have XG := XB.keeps upG
  have TG := TB.keeps upG
  have T := TB.keeps B.stays
  have CG := CB.keeps upG
  have BG := hid_below B hb hP
  have hlG := hid_list hP hl
  have hln := IntsAre.length ix
  refine wpAny_call ?_
  k_dflt (refine' enterH ?k3 ?k5 hP ?k6 ?k7 ?k8 ?k9 ?kB ?kD ?_ ?c2 ?c3 ?c4; (case k3 => exact X); (case k5 => exact T.nolimit); (case k6 => k_is); (case k7 => k_is); (case k8 => assumption); (case k9 => exact BindsTo.of_eq rfl); (case kB => exact rfl); (case kD => decide +kernel); (case c2 => exact rfl); (case c3 => exact rfl); (case c4 => exact rfl); k_whole; intro L' h' tk' cells' F' N' lP' Y'; have Y1 : CellsAre _ [] cells' := Y'; clear Y'; cases Y1; (try simp only [List.cons_append, List.nil_append] at N'); (try dsimp only))
  clear X T

  repeat ((fail_if_success (with_reducible show wpAny _ _ (exec (Stmt.For _ _ _ _ _) _) _ _ _)); (first | (k_unfold; (try dsimp only)) | walk1 | (dsimp only; walk1)))
  refine wpAny_For ?_ (by intro _; rfl)
  repeat ((fail_if_success (with_reducible show wpAny _ _ (call (Value.ref 51) _) _ _ _)); (first | (k_unfold; (try dsimp only)) | walk1 | (dsimp only; walk1)))
  rename_i ls _ l7 h₁ F₁ N₁
  refine gen_spec (pushX BG F₁ rfl rfl) XB TB ?d1 ?d2 hA (Heap.IsList.at hlG (fun o e => F₁.keep _ _ e)) ix h0 3 (hid s.heap 74) F₁.keep XG TG hlG (Nat.le_of_lt (Nat.lt_of_le_of_lt F₁.above F₁.ns.lt)) ?_
  case d1 => show A.depth + 1 < _; omega
  case d2 => show A.units + 3 + 20 < _; omega
  intro h₂ tk₂ a L gs st hg hbare hGF hgo ha hL
  refine wpAny_pyIter_gen hg ?_
  obtain ⟨oa, nm, qn, hoa, gc, gd, gsl⟩ := hg
  have aL : a ≠ L := by
    intro e
    obtain ⟨m, F⟩ := hGF.fr
    obtain ⟨oL, es, ep, ho, hd, _⟩ := F.ns
    rw [← e, hoa] at ho
    cases ho
    rw [gd] at hd; cases hd
  have upa : ∀ b o, h₁.get? b = some o → a ≠ b := fun b o e q => by rw [← q] at e; rw [ha] at e; cases e
  have upL : ∀ b o, h₁.get? b = some o → b ≠ L := fun b o e q => by rw [q] at e; rw [hL] at e; cases e
  have N₂ : News (hid s.heap 74) L' h₂ [(ls, W.listOf #[] 0), (74, tabObj args), (a, oa)] := fun q hq => by
    rcases List.mem_cons.mp hq with rfl | hq
    · exact ⟨st _ _ (N₁ _ (.head _)).1, (N₁ _ (.head _)).2⟩
    · rcases List.mem_cons.mp hq with rfl | hq
      · exact ⟨st _ _ (N₁ _ (.tail _ (.head _))).1, (N₁ _ (.tail _ (.head _))).2⟩
      · rw [List.mem_singleton.mp hq]
        refine ⟨hoa, fun e => ?_, ?_⟩
        · obtain ⟨o, es, ep, ho, _⟩ := F₁.ns
          exact upa _ _ ho e
        · cases e : (hid s.heap 74).get? a with
          | none => rfl
          | some o => exact absurd rfl (upa _ _ (F₁.keep _ _ e))
  have F₂ : Fr (hid s.heap 74) L' h₂ _ := ⟨F₁.ns.at' fun o e => st _ _ e, fun b o e => st _ _ (F₁.keep _ _ e), F₁.above⟩
  have q1 : ls ≠ L := upL _ _ (N₁ _ (.head _)).1
  have q2 : 74 ≠ L := upL _ _ (N₁ _ (.tail _ (.head _))).1
  have q3 : a ≠ ls := upa _ _ (N₁ _ (.head _)).1
  have q4 : a ≠ 74 := upa _ _ (N₁ _ (.tail _ (.head _))).1
  have q5 : L' ≠ L := by
    obtain ⟨o, es, ep, ho, _⟩ := F₁.ns
    exact upL _ _ ho
  refine with_fin (P := WEnd row s (hid s.heap 74) L' ls (tabObj args)) ?_ (fun fin => ?_)
  · rintro s' ⟨h₃, tk₃, gs₃, us, nn₃, m₃, rfl, hb₃, ix₃, F₃, N₃⟩
    clear F₁ N₁ upa upL hGF hgo hbare F₂ N₂ hoa gc gd gsl
    repeat ((fail_if_success (with_reducible show wpAny _ _ (eval (Expr.Lambda _ _ _ _) _) _ _ _)); (first | (k_unfold; (try dsimp only)) | walk1 | (dsimp only; walk1)))
    k_dflt (refine' kla_eval ?d0 ?_; (case d0 => exact rfl))
    k_dflt (refine' lam_g (S := (hid s.heap 74).StaysIn) F₃ TG CG hg5 rfl rfl (N₃ _ (.tail _ (.head _))).1 hK rfl ?_; k_whole)
    intro f' c' ct' h' tk' tab' cs' x1 x2 x3 x4
    have hF5 : ∀ b o, b ∉ [74] → s.heap.get? b = some o → _ := fun b o hm e => F₃.keep _ _ (hideAll_get _ e hm)
    have hT5 := (N₃ _ (.tail _ (.head _))).1
    have F'' := Fr.exP F₃ x1 hg5 (Nat.ne_of_gt lP')
    have N'' : News _ _ _ (_ :: _ :: _ :: cs') := lam_led (l' := [_]) N₃ F₃ hg5 (Nat.ne_of_gt lP') x1 x2 x3 (fun p hp => by
      rw [List.mem_singleton.mp hp]; exact ⟨.head _, Nat.ne_of_gt l7⟩)
    clear F₃ N₃ x1 x2 x3
    repeat ((fail_if_success (with_reducible show wpAny _ _ (call (Value.ref 44) _) _ _ _)); (first | (k_unfold; (try dsimp only)) | walk1 | (dsimp only; walk1)))
    rename_i ll _ _ _ _
    rename Fr _ _ _ _ => Fz
    rename News _ _ _ _ => Nz
    rename Heap => hr
    have hln3 := IntsAre.length ix₃
    refine reduce_list (vs := us) (V := VW (pulls row 4 .start) ll) (pushX BG Fz rfl rfl) XB TB ?e1 ?e2 ?e3 (Nz _ (.tail _ (.head _))).1 rfl hA ?en ⟨_, (Nz _ (.tail _ (.tail _ (.tail _ (.head _))))).1, rfl, _, rfl⟩ (.inl ⟨rfl, rfl, rfl⟩) ?ehis ?eHF ?ekk
    case en => have := pulls_len row 4 .start; omega
    case e1 => show A.depth + 1 < _; omega
    case e2 => show A.units + 3 + 20 < _; omega
    case e3 => show A.units + 3 + 60 < _; omega
    case ehis => intro M A' E' s' Q' st hq; exact wpAny_is_ref_other (fun e => by have := (Nz _ (.head _)).2.2; rw [e, XG 36 _ (by k_is)] at this; cases this) (st _ _ (Nz _ (.head _)).1) (st _ _ (Fz.keep _ _ (XG 36 _ (by k_is)))) (fun e => by injection e with e; exact absurd e (by decide)) hq

    case eHF =>
      rintro i v x news h tk A' hd' hu' hA' hV hnw st hxi Q' E' kq
      refine wpAny_call ?_
      have sg : (hid s.heap 74).StaysIn h := fun b o e => st b o (Fz.keep b o e)
      have hD : ∃ D, ∃ ws : List Value, v = .ref D ∧ h.IsList D ws.toArray ∧ IntsAre ws (accs (pulls row 4 .start) i) := by
        rcases hV with ⟨rfl, rfl, rfl⟩ | ⟨D, ws, rfl, rfl, iw⟩
        · exact ⟨_, [_], rfl, ⟨_, st _ _ (Nz _ (.head _)).1, rfl, _, rfl⟩, .cons (-1) _ .nil⟩
        · exact ⟨D, ws, rfl, ⟨_, hnw _ (.head _), rfl, _, rfl⟩, iw⟩
      obtain ⟨D, ws, rfl, hD, iw⟩ := hD
      k_dflt (refine' enterL (TG.nolimit.keeps sg) (st _ _ (Nz _ (.tail _ (.head _))).1) (x4 h sg (st _ _ (Nz _ (.tail _ (.tail _ (.head _)))).1) (fun p hp => st _ _ (Nz _ (.tail _ (.tail _ (.tail _ (.tail _ hp))))).1)).1 ?q1 ?q2 ?q3 ?_ ?q4 ?q5 ?q6 ?q7; (case q1 => (rw [hd']; show A.depth + 1 + 1 < _; omega)); (case q2 => exact rfl); (case q3 => exact locs rfl); (case q4 => exact rfl); (case q5 => exact rfl); (case q6 => exact rfl); (case q7 => decide); k_whole; intro L2 h2 F2; (try dsimp only))
      have N2 : News h L2 h2 [] := News.nil
      repeat ((fail_if_success (with_reducible show wpAny _ _ (subscriptTail _ _ _ _) _ _ _)); (first | (k_unfold; (try dsimp only)) | walk1 | (dsimp only; walk1)))
      have hil : i < (pulls row 4 .start).length := by
        rw [← hln3]
        by_cases z : i < us.length
        · exact z
        · rw [List.getElem?_eq_none (by omega)] at hxi; cases hxi
      obtain ⟨tx, ex⟩ := ix₃.get i _ (getD_get hil)
      rw [hxi] at ex
      obtain rfl := Option.some.inj ex
      have hal := accs_len (Nat.le_of_lt hil)
      obtain ⟨ta, ea⟩ := iw.get i _ (getD_get (by omega))
      refine kde_neg (j := i) (vs := ws) (F2.lst hD) (by decide) (by decide) (by rw [IntsAre.length iw, hal]; exact seqI i) ea ?_
      repeat ((fail_if_success (with_reducible show wpAny _ _ (binaryOp _ (Value.ref _) (Value.ref _)) _ _ _)); (first | (k_unfold; (try dsimp only)) | walk1 | (dsimp only; walk1)))
      rename Fr _ _ _ _ => F7
      rename News _ _ _ _ => N7
      refine add_lists F7 N7 (F7.lst hD) ⟨_, (N7 _ (.head _)).1, rfl, _, rfl⟩ (fun h8 F8 N8 => ?_) ?esz
      case esz =>
        show ws.length + 1 ≤ sizeLine
        have := IntsAre.length iw
        have : 10 ≤ sizeLine := by decide
        have := pulls_len row 4 .start
        omega
      refine kq _ [(_, _)] h8 _ (.inr ⟨_, _, rfl, rfl, ?_⟩) F8.keep (fun q hq => by rw [List.mem_singleton.mp hq]; exact ⟨(N8 _ (.head _)).1, (N8 _ (.head _)).2.2⟩)
      rw [accs_succ hil]; exact iw.append (.cons _ _ .nil)
    case ekk =>
      rintro v news h' tk' hV st hnw
      have hD : ∃ D, ∃ ws : List Value, v = .ref D ∧ h'.IsList D ws.toArray ∧ IntsAre ws (accs (pulls row 4 .start) us.length) := by
        rcases hV with ⟨e, rfl, rfl⟩ | ⟨D, ws, rfl, rfl, iw⟩
        · exact ⟨_, [_], rfl, ⟨_, st _ _ (Nz _ (.head _)).1, rfl, _, rfl⟩, e ▸ .cons (-1) _ .nil⟩
        · exact ⟨D, ws, rfl, ⟨_, (hnw _ (.head _)).1, rfl, _, rfl⟩, iw⟩
      obtain ⟨D, ws, rfl, hD, iw⟩ := hD
      clear hV hnw news
      have F4 : Fr (hid s.heap 74) L' h' _ := ⟨Fz.ns.at' fun o e => st _ _ e, fun b o e => st _ _ (Fz.keep _ _ e), Fz.above⟩
      have N4 : News (hid s.heap 74) L' h' _ := fun q hq => ⟨st q.1 q.2 (Nz q hq).1, (Nz q hq).2⟩
      repeat ((fail_if_success (with_reducible show wpAny _ _ (subscriptTail _ _ _ _) _ _ _)); (first | (k_unfold; (try dsimp only)) | walk1 | (dsimp only; walk1)))
      rename Fr _ _ _ _ => F5
      rename News _ _ _ _ => N5
      have hac : (accs (pulls row 4 .start) us.length).drop (1 : Int).toNat = sums (-1) (pulls row 4 .start) := by
        unfold accs
        rw [hln3, List.take_length]; rfl
      refine slice_any F5 N5 hD (.int _ _) .none (kmk_from (x := 1) iw (by decide)) (fun D9 ws9 h9 F9 N9 l9 i9 => ?_) ?s9 ?z9
      case s9 => with_unfolding_all rfl
      case z9 =>
        rw [List.size_toArray, IntsAre.length iw, accs_len (by omega)]
        have : 10 ≤ sizeLine := by decide
        have := pulls_len row 4 .start
        omega
      rw [hac] at i9
      refine k _ _ gs₃ D9 ws9 hb₃ (fun b o hm e => F9.keep _ _ (hideAll_get _ e hm)) ?_ ?_ (N9 _ (.head _)).1 i9
      · exact (x4 h9 F9.keep (N9 _ (.tail _ (.tail _ (.tail _ (.head _))))).1 (fun p hp => (N9 _ (.tail _ (.tail _ (.tail _ (.tail _ (.tail _ hp)))))).1)).2.base hP hT5 hF5
      · cases e : s.heap.get? D9 with
        | none => rfl
        | some o =>
          have h7 := hideAll_get [74] e (fun hm => absurd (List.mem_singleton.mp hm) (Nat.ne_of_gt (l9 (74, _) (by k_mem))))
          rw [(N9 _ (.head _)).2.2] at h7; cases h7
  generalize eA : A.deeper _ = A₂
  have hA₂ : A₂.in1.handled = none := by rw [← eA]; exact hA
  refine codeAny_forLoop_any (WJ A₂ w row s (hid s.heap 74) L' ls a L l oa (tabObj args)) ?_ 5 ⟨0, h₂, tk₂, .start, 0, gs, [], [], _, _, rfl, by decide, rfl, rfl, rfl, rfl, .nil, hbare, fun s'' hF => hgo _ s'' hA₂ hF, Fr.szm F₂ rfl, N₂, hGF⟩
  subst eA
  clear F₂ N₂ hGF hgo hbare F₁ N₁ upa upL
  · rintro n s' ⟨j, h, tk, σ, I, gs, vz, xs, nn, m, rfl, hj, rfl, e1, e2, hxl, ixz, hb', hgo, F, N, hGF⟩
    have hIG : h.IsGen a s.gens.size := ⟨oa, nm, qn, (N _ (.tail _ (.tail _ (.head _)))).1, gc, gd, gsl⟩
    obtain ⟨d, hd'⟩ : ∃ d, 4 - j = d + 1 := ⟨3 - j, by omega⟩
    rw [hd'] at hgo e2
    refine pyNext_bare (n := d + 1) (g := s.gens.size) (gs := gs) (P := fun n s₀ s₁ => (∃ σ, seqG row (4 - n) = some σ ∧ nextG row σ = none) ∧ RelG L s₀ s₁ ∧ (hid s.heap 74).StaysIn s₁.heap) (Y := Yg row (hid s.heap 74) L l 4) hA (TG.nolimit.keeps F.keep) ?d3 hIG last_push (hgo _ hGF) ?_ ?_
    case d3 => show A.depth + 1 < _; omega
    · rintro v s₁ gs' hb1 ⟨I', σ₁, x, σ', f1, f2, ⟨t, rfl⟩, hGF', ⟨h₃, tk₃, rfl, hrel⟩, hkap⟩
      obtain rfl : σ = σ₁ := by
        have : 4 - 1 - (d + 1 - 1) = j := by omega
        rw [this, e1] at f1
        exact Option.some.inj f1
      show wpAny _ _ (letOwnedTupleGo _ _ _) _ _ _
      rw [setgen2]
      obtain ⟨m4, F4⟩ := hGF'.fr
      obtain ⟨own, ho1, ho2⟩ := hGF'.carry
      have F₃ := Fr.rel F q5 hrel F4.keep
      have N₃ : News (hid s.heap 74) L' h₃ ((ls, W.listOf vz.toArray nn) :: (74, tabObj args) :: (a, oa) :: own) := fun q hq => by
        rcases List.mem_append.mp (show q ∈ [(ls, W.listOf vz.toArray nn), (74, tabObj args), (a, oa)] ++ own from hq) with hq | hq
        · exact newsW N q1 q2 aL gc hrel q hq
        · refine ⟨(ho1 q hq).1, fun e => ?_, (ho1 q hq).2.1⟩
          rcases (ho1 q hq).2.2 with z | z
          · exact q5 (e.symm.trans z)
          · obtain ⟨o', es, ep, ho, hd, _⟩ := F₃.ns
            rw [← e, (ho1 q hq).1] at ho; cases ho
            rw [z.2.choose_spec] at hd; cases hd
      have hne : ∀ q ∈ (74, tabObj args) :: (a, oa) :: own, q.1 ≠ ls := fun q hq => by
        rcases List.mem_cons.mp hq with rfl | hq
        · exact Nat.ne_of_lt l7
        · rcases List.mem_cons.mp hq with rfl | hq
          · exact q3
          · intro e
            rcases (ho1 q hq).2.2 with z | z
            · exact q1 (e.symm.trans z)
            · have h5 := (N₃ _ (.head _)).1
              rw [← e, (ho1 q hq).1] at h5
              have h6 := z.2
              rw [Option.some.inj h5] at h6
              exact nomatch h6.choose_spec
      clear F N hGF hgo F4
      refine wpAny_pure ?_
      repeat ((fail_if_success (with_reducible show wpAny _ _ (call _ _) _ _ _)); (first | (k_unfold; (try dsimp only)) | walk1 | (dsimp only; walk1)))

      rename Fr _ _ _ _ => F₄
      rename News _ _ _ _ => N₄
      refine append_K F₄ N₄ (.head hne) (fun h₅ F₅ N₅ => ?_) ?_
      · rw [List.push_toArray] at N₅
        have hl1 := IntsAre.length ixz
        repeat ((fail_if_success (with_reducible show wpAny _ _ (execs [Stmt.Break _] _) _ _ _)); (first | (k_unfold; (try dsimp only)) | walk1 | (dsimp only; walk1)))
        · rename_i h4
          iterate 3 (first | (k_unfold; (try dsimp only)) | walk1 | (dsimp only; walk1))
          rename Fr _ _ _ _ => F₆
          rename News _ _ _ _ => N₆
          have hj3 : d = 0 := by omega
          subst hj3
          exact fin _ ⟨_, _, gs', vz ++ [.int x t], _, _, rfl, hb1, by rw [e2, pulls_some f2]; exact ixz.append (.cons _ _ .nil), Fr.szm F₆ rfl, fun q hq => N₆ q (by
            rcases List.mem_cons.mp hq with rfl | hq
            · exact .head _
            · rw [List.mem_singleton.mp hq]; exact .tail _ (.head _))⟩
        · rename_i h4
          rename Fr _ _ _ _ => F₆
          rename News _ _ _ _ => N₆
          repeat ((fail_if_success (with_reducible show ∃ x, _)); (first | (k_unfold; (try dsimp only)) | walk1 | (dsimp only; walk1)))
          have hd0 : d ≠ 0 := by omega
          obtain ⟨d, rfl⟩ : ∃ d', d = d' + 1 := ⟨d - 1, by omega⟩
          refine ⟨5 - (j + 1), by omega, j + 1, _, _, σ', I', gs', vz ++ [.int x t], xs ++ [x], nn + 1, _, rfl, by omega, rfl, ?_, ?_, by rw [List.length_append, hxl]; rfl, ixz.append (.cons _ _ .nil), hb1, ?_, Fr.szm F₆ rfl, ?_, ho2 _ F₆.keep fun q hq => (N₆ q (.tail _ (.tail _ (.tail _ hq)))).1⟩
          · show (seqG row j).bind _ = _
            rw [e1]
            show (nextG row σ).map _ = _
            rw [f2]; rfl
          · rw [e2, pulls_some f2, show 4 - (j + 1) = d + 1 by omega, List.append_assoc]; rfl
          · rw [show 4 - (j + 1) = d + 1 by omega]
            exact hkap (by omega)
          · exact fun q hq => N₆ q (by
              rcases List.mem_cons.mp hq with rfl | hq
              · exact .head _
              · rcases List.mem_cons.mp hq with rfl | hq
                · exact .tail _ (.head _)
                · rw [List.mem_singleton.mp hq]; exact .tail _ (.tail _ (.head _)))
      · show vz.toArray.size ≤ sizeLine
        have := IntsAre.length ixz
        rw [List.size_toArray]
        have : 4 ≤ sizeLine := by decide
        omega
    · rintro s₁ ⟨⟨σ₁, f1, f2⟩, ⟨h₃, tk₃, rfl, hrel⟩, st₃⟩ h₄ up₄
      obtain rfl : σ = σ₁ := by
        have : 4 - (d + 1) = j := by omega
        rw [this, e1] at f1
        exact Option.some.inj f1
      have F₃ := Fr.rel F q5 hrel st₃
      have N₃ := newsW N q1 q2 aL gc hrel
      rw [pulls_none f2, List.append_nil] at e2
      rw [setgenF]
      repeat ((fail_if_success (with_reducible show wpAny _ _ (execs [Stmt.Return _ _] _) _ _ _)); (first | (k_unfold; (try dsimp only)) | walk1 | (dsimp only; walk1)))
      exact fin _ ⟨h₄, _, .finished, vz, _, _, rfl, rfl, e2 ▸ ixz, ⟨F₃.ns.at' fun o e => up₄ _ _ e, fun b o e => up₄ _ _ (F₃.keep b o e), F₃.above⟩, fun q hq => by
        have hq' : q ∈ [(ls, W.listOf vz.toArray nn), (74, tabObj args), (a, oa)] := by
          rcases List.mem_cons.mp hq with rfl | hq
          · exact .head _
          · rw [List.mem_singleton.mp hq]; exact .tail _ (.head _)
        exact ⟨up₄ _ _ (N₃ q hq').1, (N₃ q hq').2⟩⟩
end Mine
end
section
open PySem PySem.W PySem.Calls PyProof.Rows
set_option Elab.async false
set_option maxRecDepth 100000
namespace Mine
theorem kn_postG {M : Model} {A : Around} {cd : Code} {s s₁ : Shared} {cw : ClaimW} {cl : Str → Option Addr} {mean : ExcName → Option Value} {args : List WData} {tabs : List (Addr × Addr)} (hT : TabsAt tabs s₁.heap) (hr : ∀ a x, cw.raises a x = false)
    (h : codeAny M A cd (fun r s' => GoodW cw cl mean args { s₁ with heap := ghostOf s₁.heap tabs } r { s' with gens := s₁.gens } ∧ AllBare s'.gens ∧ GrownAll tabs s'.heap) s) : codeAny M A cd (GoodWG cw cl mean args s₁) s :=
  codeAny_mono h fun r s' ⟨⟨hc, hk, hos, _⟩, hg, hgr⟩ => by
    have keep : ∀ b o, b ∉ tabs.map (·.2) → s₁.heap.get? b = some o → s'.heap.get? b = some o := fun b o hb e => hk b o (ghost_ne e hb)
    have grown : ∀ b o, b ∈ tabs.map (·.2) → s₁.heap.get? b = some o → isCodeTable s₁.heap b ∧ o = tabObj #[] ∧ ∃ ps, s'.heap.get? b = some (tabObj ps) := fun b o hb e => by
      obtain ⟨q, hq, rfl⟩ := List.mem_map.mp hb
      have e2 := (hT q hq).2
      rw [e] at e2
      exact ⟨((hT q hq).1.tab (hT q hq).2).isCodeTable, Option.some.inj e2, hgr.get q hq⟩
    refine ⟨?_, ⟨fun b o e => ?_, fun b o e => ?_⟩, hos, hg⟩
    · rcases hc with ⟨v, d, as, r1, r2, r3, r4, r5⟩ | ⟨e, ob, x, _, _, _, r4, _⟩
      · refine .inl ⟨v, d, as, r1, r2, r3, r4, fun q => ⟨(r5 q).1, fun a ha => ?_⟩⟩
        cases q1 : s₁.heap.get? a with
        | none => rfl
        | some o =>
          by_cases hb : a ∈ tabs.map (·.2)
          · obtain ⟨_, _, ps, hP⟩ := grown a o hb q1
            exact absurd ha (readsW_apart hP rfl r3)
          · have e3 := (r5 q).2 a ha
            rw [show (ghostOf s₁.heap tabs).get? a = some o from ghost_ne q1 hb] at e3
            cases e3
      · rw [hr] at r4; cases r4
    · by_cases hb : b ∈ tabs.map (·.2)
      · obtain ⟨ht, rfl, ps, hP⟩ := grown b o hb e
        exact .inr (.inl ⟨ht, rfl, #[], ps, rfl, by rw [Array.empty_append]; exact hP⟩)
      · exact .inl (keep b o hb e)
    · by_cases hb : b ∈ tabs.map (·.2)
      · obtain ⟨_, _, ps, hP⟩ := grown b o hb e
        exact ⟨_, hP⟩
      · exact ⟨o, keep b o hb e⟩
end Mine
end
section
open PySem PySem.W PySem.Calls PyProof.Rows
set_option Elab.async false
set_option maxRecDepth 100000
set_option maxHeartbeats 4000000
set_option linter.unusedVariables false
set_option linter.unusedSimpArgs false
namespace Mine
section
variable {prog : Program} {w : World} {A : Around} {s : Shared} {K : Frag}
  {R : Result → Shared → Prop} {name qual : Str} {params : Arguments} {body : List Stmt} {scope : Scope} {dV kV doc pm cdv ct oc : Value} {an od : Option Addr} {osl : Array (Option Value)} {f : Addr} {args : Args} {binds : List (Str × Value)}
noncomputable abbrev Tabs0 (ts : List Addr) (h : Heap) : Prop := ∀ P ∈ ts, h.get? P = some (tabObj #[])
noncomputable abbrev tabs0 (ts : List Addr) : List (Addr × Obj) := ts.map fun P => (P, tabObj #[])
theorem hids_up {base h : Heap} {ts : List Addr} (up : base.StaysIn h) (hb : ∀ P ∈ ts, base.get? P = none) : base.StaysIn (hideAll h ts) := fun b o e => hideAll_get _ (up b o e) (fun hm => by
  rw [hb b hm] at e
  cases e)
theorem hids_get {h : Heap} {ts : List Addr} {b : Addr} {o : Obj} (hP : Tabs0 ts h) (hb : h.get? b = some o) (hd : ∀ vs, o.data ≠ .fields vs) : (hideAll h ts).get? b = some o := hideAll_get _ hb (fun hm => by
  rw [hP b hm] at hb
  cases hb
  exact hd _ rfl)
theorem hids_list {h : Heap} {ts : List Addr} {l : Addr} {its : Array Value} (hP : Tabs0 ts h) (hl : h.IsList l its) : (hideAll h ts).IsList l its := by
  obtain ⟨o, ho, hc, n, hd⟩ := hl
  exact ⟨o, hids_get hP ho (fun vs e => by rw [hd] at e; cases e), hc, n, hd⟩
theorem hids_below {A : Around} {base h : Heap} {outer : List Env} {ts : List Addr} (B : Below A base outer h) (hb : ∀ P ∈ ts, base.get? P = none) (hP : Tabs0 ts h) : Below A base outer (hideAll h ts) := by
  refine ⟨B.stack, hids_up B.stays hb, funFrames_hideAll B.frames fun env he a ha hf => ?_⟩
  obtain ⟨L, o, hf', ho, hd⟩ := frames_dict B.frames env he
  rw [hf] at hf'
  cases hf'
  rw [hP a ha] at ho
  cases ho
  exact hd _ rfl
theorem enterHs {ts : List Addr} (X : K.In s.heap) (hlim : s.heap.NoLimit) (hP : Tabs0 ts s.heap)
    (ho : K.lookup f = some ⟨oc, od, .func (fnOf name qual params body scope dV kV doc pm an cdv ct), osl⟩) (hcd : codeIn K cdv qual = true) (hroom : A.depth < recursionLimit)
    (hbind : BindsTo s (fnOf name qual params body scope dV kV doc pm an cdv ct) args binds) (hkind : (binds.all fun y => scope.names.lookup y.1 == some .local || scope.names.lookup y.1 == some .cell) = true)
    (hnd : ((cellsFrom 0 scope.names []).map (·.1)).Nodup)
    (h : ∀ L' h₁ tk cells, Fr (hideAll s.heap ts) L' h₁ (bindL (envOfC qual scope L' f cdv).kindOf binds fun _ => none) → News (hideAll s.heap ts) L' h₁ (cells ++ tabs0 ts) → (∀ P ∈ ts, P < L') →
      CellsAre (bindC (envOfC qual scope L' f cdv).kindOf binds fun _ => none) (cellsFrom (L' + 1) scope.names []) cells →
      wpAny (model prog w) (A.deeper (envOfC qual scope L' f cdv)) (execs body (envOfC qual scope L' f cdv))
        (fun fl s' => R (.ok (.ret (match fl with | .ret v => v | _ => .none))) s')
        (fun _ _ => False)
        { s with heap := h₁, toks := tk })
    (hco : scope.isCoroutine = false) (hgen : scope.isGenerator = false) (hk : scope.kind = .function) : codeAny (model prog w) A (.call (.ref f) args) R s := by
  refine enterC X hlim ho hcd hroom hbind hkind hnd (fun L' h₁ tk cells F N Y => ?_) hco hgen hk
  have hlt : ∀ P ∈ ts, P < L' := fun P hm => Nat.lt_of_lt_of_le (Heap.lt_size (hP P hm)) F.above
  refine h L' h₁ tk cells ⟨F.ns, fun b o e => F.keep b o (of_hideAll _ e), by rw [hideAll_size]; exact F.above⟩ (fun q hq => ?_) hlt Y
  rcases List.mem_append.mp hq with hq | hq
  · refine ⟨(N q hq).1, (N q hq).2.1, ?_⟩
    cases e : (hideAll s.heap ts).get? q.1 with
    | none => rfl
    | some o =>
      have := (N q hq).2.2
      rw [of_hideAll _ e] at this
      cases this
  · obtain ⟨P, hm, rfl⟩ := List.mem_map.mp hq
    exact ⟨F.keep _ _ (hP P hm), Nat.ne_of_lt (hlt P hm), hideAll_none _ hm⟩
end
section
variable {M : Model} {A : Around} {E : Value → Shared → Prop} {s : Shared} {name : Str} {scope : Scope} {L a : Addr} {cd : Value} {h₀ : Heap} {m : Str → Option Value}
theorem stCell {x : Str} {c : Addr} {o : Obj} {v₀ : Option Value} {v : Value} {news : List (Addr × Obj)} {g : Obj → List (Addr × Obj)} {Q : Unit → Shared → Prop} (F : Fr h₀ L s.heap m) (N : News h₀ L s.heap news)
    (hc : (cellsFrom (L + 1) scope.names []).lookup x = some c) (U : UpdF c o news g) (hd : o.data = .cell v₀)
    (h : ∀ h' o', Fr h₀ L h' m → News h₀ L h' (g o') → o'.data = .cell (some v) → Q () { s with heap := h' })
    (hk : scope.kind = .function := by rfl) (hl : (envOfC name scope L a cd).kindOf x = some .cell := by rfl) :
    wpAny M A (storeName (envOfC name scope L a cd) x v) Q E s := by
  obtain ⟨own, rest, rfl, hg, h1, h2⟩ := U.split
  exact stCN F N hc hd h1 h2 (fun h' o' F' N' d' => h h' o' F' (hg o' ▸ N') d') hk hl
end
section
variable {prog : Program} {w : World} {A : Around} {E : Value → Shared → Prop} {s : Shared} {env : Env} {g : Heap} {L : Addr} {m m₂ : Str → Option Value}
theorem assignC {x : Str} {pos : Pos} {scope : Scope} {cl : List (Str × Addr)} {I C : Addr} {oI oC : Obj} {rest : List (Addr × Obj)} {v : Value} {Q : Unit → Shared → Prop} (F : Fr g L s.heap m) (N : News g L s.heap ((I, oI) :: (C, oC) :: rest)) (hC : LCg.NsObj oC m₂)
    (hIC : I ≠ C) (off : ∀ p ∈ rest, p.1 ≠ C) (hx : scope.names.lookup x = some .local) (hkind : scope.kind = .function)
    (h : ∀ h' oC', LCg.NsObj oC' (fun y => if y = x then some v else m₂ y) → Fr g L h' m → News g L h' ((I, oI) :: (C, oC') :: rest) → Q () { s with heap := h', toks := s.toks + 1 }) :
    wpAny (model prog w) A (assign (.Name x pos) (compEnvC scope cl C env) v) Q E s := by
  have zC := N (C, oC) (.tail _ (.head _))
  refine wpAny_assign_Name (wpAny_storeName_local (env := compEnvC scope cl C env) (lookup_relabel_local hx) (hC.ns zC.1) (fun h₃ hn₃ hs₃ => ?_) (by simp [compEnvC, relabel, hkind]))
  obtain ⟨oC', heC, hoC⟩ := LCg.ns_obj hn₃
  refine h h₃ oC' hoC (F.change hs₃ zC.2.1 zC.2.2) fun p hp => ?_
  rcases List.mem_cons.mp hp with rfl | hp
  · exact ⟨hs₃.extBut _ _ hIC (N _ (.head _)).1, (N _ (.head _)).2⟩
  · rcases List.mem_cons.mp hp with rfl | hp
    · exact ⟨heC, zC.2⟩
    · exact ⟨hs₃.extBut _ _ (off p hp) (N p (.tail _ (.tail _ hp))).1, (N p (.tail _ (.tail _ hp))).2⟩
end
theorem Fr.fix {g h : Heap} {L : Addr} {m : Str → Option Value} (F : Fr g L h m) : ∃ mx, m = mx ∧ Fr g L h mx := ⟨m, rfl, F⟩
theorem News.fix {g h : Heap} {L : Addr} {l : List (Addr × Obj)} (N : News g L h l) : ∃ fx, l = fx ∧ News g L h fx := ⟨l, rfl, N⟩
noncomputable def LR (rows : List (Addr × Obj)) (ps : List (List Int)) : Prop := rows.length = ps.length ∧ ∀ (j : Nat) (p : Addr × Obj) (q : List Int), rows[j]? = some p → ps[j]? = some q → ∃ vs : List Value, ∃ n, p.2 = W.listOf vs.toArray n ∧ IntsAre vs q
theorem LR.nil : LR [] [] := ⟨rfl, fun _ _ _ h => nomatch h⟩
theorem LR.snoc {rows : List (Addr × Obj)} {ps : List (List Int)} {D : Addr} {vs : List Value} {n : Nat} {q : List Int} (h : LR rows ps) (hi : IntsAre vs q) : LR (rows ++ [(D, W.listOf vs.toArray n)]) (ps ++ [q]) := by
  refine ⟨by rw [List.length_append, List.length_append, h.1]; rfl, fun j p q' hj hq => ?_⟩
  by_cases hl : j < rows.length
  · rw [List.getElem?_append_left hl] at hj
    rw [List.getElem?_append_left (h.1 ▸ hl)] at hq
    exact h.2 j p q' hj hq
  · rw [List.getElem?_append_right (by omega)] at hj
    rw [List.getElem?_append_right (by have := h.1; omega), ← h.1] at hq
    cases e : j - rows.length with
    | zero =>
      rw [e] at hj hq
      cases hj; cases hq
      exact ⟨vs, n, rfl, hi⟩
    | succ k => rw [e] at hj; cases hj
noncomputable abbrev refs (rows : List (Addr × Obj)) : List Value := rows.map fun p => .ref p.1
end Mine
end
section
open PySem PySem.W PySem.Calls PyProof.Rows
set_option Elab.async false
set_option maxRecDepth 100000
set_option linter.unusedVariables false
namespace Mine
section
variable {prog : Program} {w : World} {A : Around} {E : Value → Shared → Prop} {s : Shared}
theorem draw_list {it t : Addr} {items : Array Value} (hne : t ≠ it) : ∀ (n i : Nat) (s : Shared) (Q : List Value → Shared → Prop), s.heap.IsListIter it t i → s.heap.IsList t items → i + n ≤ items.size →
    (∀ h', h'.IsListIter it t (i + n) → Heap.SameBut it s.heap h' → Q ((items.toList.drop i).take n) { s with heap := h' }) → wpAny (model prog w) A (draw (.ref it) n) Q E s
  | 0, i, s, Q, hit, _, _, hQ => by
    show wpAny _ _ (pure []) Q E s
    exact wpAny_pure (by simpa using hQ s.heap hit (Heap.SameBut.refl ..))
  | n + 1, i, s, Q, hit, ht, hle, hQ => by
    have hlt : i < items.size := by omega
    show wpAny _ _ (pyNext (.ref it) >>= _) Q E s
    refine wpAny_bind (wpAny_pyNext_list_item hit ht (x := items[i]) (by simp [hlt]) fun h₁ hit₁ hs₁ => ?_)
    refine wpAny_bind (wpAny_holding (draw_list hne n (i + 1) _ _ hit₁ (ht.extBut hs₁.extBut hne) (by omega) fun h₂ hit₂ hs₂ => wpAny_pure ?_))
    have hd : items.toList.drop i = items[i] :: items.toList.drop (i + 1) := by simp [List.drop_eq_getElem_cons, hlt]
    have := hQ h₂ (by rw [show i + (n + 1) = i + 1 + n by omega]; exact hit₂) (hs₁.trans hs₂)
    rw [hd, List.take_succ_cons] at this
    exact this
theorem unpackItems_list {t : Addr} {items : Array Value} {Q : List Value → Shared → Prop} (hh : A.handled = none) (ht : s.heap.IsList t items)
    (hQ : ∀ h', Heap.ExtBut s.heap.objs.size s.heap h' → Q items.toList { s with heap := h' }) : wpAny (model prog w) A (unpackItems (.ref t) items.size none) Q E s := by
  have hlt : t ≠ s.heap.objs.size := by obtain ⟨o, ho, _⟩ := ht; exact Nat.ne_of_lt (Heap.lt_size ho)
  unfold unpackItems
  refine wpAny_bind ?_
  · unfold notIterableAtAll
    refine wpAny_bind (wpAny_specialOf ht.typeIs slot_list_iter.lookup ?_)
    refine wpAny_pure ?_
    simp only [Bool.false_eq_true, if_false]
    refine wpAny_bind (wpAny_holding (wpAny_pyIter_list ht ?_))
    refine wpAny_bind (wpAny_holding (draw_list hlt items.size 0 _ _ ⟨_, Heap.get?_push_size _ rfl, rfl, rfl⟩ (ht.push _) (by omega) fun h₁ hit₁ hs₁ => ?_))
    have hall : List.take items.size (List.drop 0 items.toList) = items.toList := by
      rw [List.drop_zero]; exact List.take_of_length_le (by simp)
    rw [hall]
    rw [if_neg (by simp)]
    have ht₁ : h₁.IsList t items := (ht.push _).extBut hs₁.extBut hlt
    refine wpAny_bind (wpAny_holding (wpAny_pyNext_list_end hh hit₁ ht₁ (by simp) fun h₂ he₂ => ?_))
    simp only [Option.isSome_none, Bool.false_eq_true, if_false]
    refine wpAny_pure (hQ h₂ fun b o hb e => he₂ b o hb (hs₁.extBut b o hb (Heap.get?_push_of_some _ e)))
theorem unpack_list {t : Addr} {items : Array Value} {targets : List (Bool × (Value → Sem Unit))} {Q : Unit → Shared → Prop} (hh : A.handled = none) (ht : s.heap.IsList t items)
    (hn : targets.length = items.size) (hstar : targets.findIdx? (·.1) = none)
    (h : ∀ h', Heap.ExtBut s.heap.objs.size s.heap h' → wpAny (model prog w) A (assignInOrder (targets.map (·.2)) items.toList) Q E { s with heap := h' }) :
    wpAny (model prog w) A (unpack (.ref t) targets) Q E s := by
  unfold unpack
  rw [hn, hstar]
  exact wpAny_bind (wpAny_holding (unpackItems_list hh ht h))
theorem assign_TupleL {env : Env} {elts : List PySem.Expr} {x1} {pos : Pos} {t : Addr} {items : Array Value} {Q : Unit → Shared → Prop} (hh : A.handled = none) (ht : s.heap.IsList t items)
    (hn : (assignEach elts env).length = items.size) (hstar : (assignEach elts env).findIdx? (·.1) = none)
    (h : ∀ h', Heap.ExtBut s.heap.objs.size s.heap h' → wpAny (model prog w) A (assignInOrder ((assignEach elts env).map (·.2)) items.toList) Q E { s with heap := h' }) :
    wpAny (model prog w) A (assign (.Tuple elts x1 pos) env (.ref t)) Q E s := by
  rw [arm_assign_Tuple]
  exact wpAny_bind (wpAny_standAt (unpack_list hh ht hn hstar h))
end
end Mine
end
section
open PySem PySem.W PySem.Calls PyProof.Rows
set_option Elab.async false
set_option maxRecDepth 100000
set_option maxHeartbeats 4000000
set_option linter.unusedVariables false
namespace Mine
section
variable {prog : Program} {w : World} {A : Around} {E : Value → Shared → Prop} {s : Shared} {env : Env} {g : Heap} {L : Addr} {m : Str → Option Value} {elt : PySem.Expr} {scope : Scope} {cl : List (Str × Addr)}
  {V : Nat → List Value → Array GenState → List (Addr × Obj) → Prop} {news : List (Addr × Obj)} {Fin : List Value → Addr → Addr → Shared → Prop}
theorem next_not {h : Heap} (N : News g L h news) : ∀ p ∈ news, p.1 ≠ h.objs.size := fun p hp => Nat.ne_of_lt (Heap.lt_size (N p hp).1)
theorem next_g {h : Heap} {m : Str → Option Value} (F : Fr g L h m) : g.get? h.objs.size = none := next_is_new F
noncomputable abbrev nm1 (x : Str) (v : Value) (m₂ : Str → Option Value) : Str → Option Value := fun y => if y = x then some v else m₂ y
theorem CompG.range {x : Str} {px : Pos} {R : Addr} {n : Nat} {t u v : Tok} (hR : IsRange s.heap R 0 n 1 t u v) (hsm : Builtin.Range.small 0 n 1 = true) (hrs : Builtin.Range.rangeSize 0 n 1 = n) (hn : n ≤ sizeLine) (hh : A.handled = none)
    (hx : scope.names.lookup x = some .local) (hkind : scope.kind = .function) (F : Fr g L s.heap m) (N : News g L s.heap news) (V0 : V 0 [] s.gens news)
    (turn : ∀ i t ys gs nw I oI C oC D oD h tk m₂ E', i < n → V i ys gs nw → LCg.NsObj oC (nm1 x (.int (i : Int) t) m₂) → Fr g L h m → News g L h ((I, oI) :: (C, oC) :: (D, oD) :: nw) → (∀ p ∈ nw, p.1 ≠ I ∧ p.1 ≠ C ∧ p.1 ≠ D) → (I ≠ C ∧ I ≠ D ∧ C ≠ D) →
        wpAny (model prog w) A (eval elt (compEnvC scope cl C env)) (TurnEnd g L m s I C D oI oD (fun y gs' nw' => V (i + 1) (ys ++ [y]) gs' nw')) E' { s with heap := h, gens := gs, toks := tk })
    (done : ∀ ys gs nw D C k h tk, V n ys gs nw → ys.length = n → Fr g L h m → News g L h ((D, W.listOf ys.toArray k) :: nw) → (∀ p ∈ nw, p.1 ≠ D ∧ p.1 ≠ C) → Fin ys D C { s with heap := h, gens := gs, toks := tk }) :
    wpAny (model prog w) A (pyIter (.ref R)) (fun it s₂ => CompG prog w A elt (.Name x px) env scope cl g L m V (fun _ => True) it s₂ Fin) E s := by
  refine wpAny_pyIter_range hR hsm ?_
  rw [hrs]
  refine CompG.mk (s.heap.objs.size) ([s.heap.objs.size]) n _ _ news rfl (Walks.range hh _ 0 1 n) hn ?_ ?_ (F.push _) (News.grown N (fun _ _ e => Heap.get?_push_of_some _ e)) (next_not N) (next_g F) (Nat.ne_of_lt F.ns.lt) ?_ ?_ ?_ V0 ?_ done
  · show IsRangeIter _ _ _ _ _
    have := Heap.get?_push_size (h := s.heap) (o := { cls := .type "range_iterator", data := .fields #[rawInt 0, rawInt (n : Int), rawInt 1] }) rfl
    simpa using this
  · intro b hb
    rw [List.mem_singleton.mp hb, Heap.size_push]
    exact Nat.lt_succ_self _
  · intro i h hi; exact ⟨_, hi⟩
  · intro i h h' o nw hi e e' _ _ _
    have : h.get? s.heap.objs.size = some _ := hi
    rw [e] at this; cases this
    exact e'
  · intro i s' v Q' E' _ hq; exact wpAny_pure hq
  · rintro i v ys gs nw oI C oC D oD h tk m₂ E' hi ⟨t, rfl⟩ hV hC F₁ N₁ off hne
    refine assignC (s := { s with heap := h, gens := gs, toks := tk }) F₁ N₁ hC hne.1 (fun p hp => ?_) hx hkind fun h' oC' hC' F₂ N₂ => ?_
    · rcases List.mem_cons.mp hp with rfl | hp
      · exact hne.2.2.symm
      · exact (off p hp).2.1
    · have e1 : (0 : Int) + (i : Int) * 1 = (i : Int) := by omega
      rw [e1] at hC'
      exact turn i t ys gs nw _ oI C oC' D oD h' _ m₂ E' hi hV hC' F₂ N₂ off hne
theorem CompG.list {x : Str} {px : Pos} {l : Addr} {its : List Value} {k : Nat} {S : List (Addr × Obj) → Prop} (hl : (l, W.listOf its.toArray k) ∈ news) (hn : its.length ≤ sizeLine) (hh : A.handled = none)
    (hx : scope.names.lookup x = some .local) (hkind : scope.kind = .function) (F : Fr g L s.heap m) (N : News g L s.heap news) (V0 : V 0 [] s.gens news) (hS : ∀ nw, S nw → (l, W.listOf its.toArray k) ∈ nw)
    (turn : ∀ i v ys gs nw I oI C oC D oD h tk m₂ E', its[i]? = some v → V i ys gs nw → LCg.NsObj oC (nm1 x v m₂) → Fr g L h m → News g L h ((I, oI) :: (C, oC) :: (D, oD) :: nw) → (∀ p ∈ nw, p.1 ≠ I ∧ p.1 ≠ C ∧ p.1 ≠ D) → (I ≠ C ∧ I ≠ D ∧ C ≠ D) →
        wpAny (model prog w) A (eval elt (compEnvC scope cl C env)) (TurnEnd g L m s I C D oI oD (fun y gs' nw' => V (i + 1) (ys ++ [y]) gs' nw')) E' { s with heap := h, gens := gs, toks := tk })
    (done : ∀ ys gs nw D C k h tk, V its.length ys gs nw → ys.length = its.length → Fr g L h m → News g L h ((D, W.listOf ys.toArray k) :: nw) → (∀ p ∈ nw, p.1 ≠ D ∧ p.1 ≠ C) → Fin ys D C { s with heap := h, gens := gs, toks := tk }) :
    wpAny (model prog w) A (pyIter (.ref l)) (fun it s₂ => CompG prog w A elt (.Name x px) env scope cl g L m V S it s₂ Fin) E s := by
  have hll : s.heap.IsList l its.toArray := ⟨_, (N _ hl).1, rfl, _, rfl⟩
  have hlt : l < s.heap.objs.size := Heap.lt_size (N _ hl).1
  refine wpAny_pyIter_list hll ?_
  refine CompG.mk (s.heap.objs.size) ([s.heap.objs.size, l]) (its.length) (fun i v => its[i]? = some v) (fun i h => h.IsListIter s.heap.objs.size l i ∧ h.IsList l its.toArray) news rfl ((by simpa using Walks.list hh s.heap.objs.size l (Nat.ne_of_lt hlt) its.toArray)) hn (⟨⟨_, Heap.get?_push_size _ rfl, rfl, rfl⟩, hll.push _⟩) ?_ (F.push _) (News.grown N (fun _ _ e => Heap.get?_push_of_some _ e)) (next_not N) (next_g F) (Nat.ne_of_lt F.ns.lt) ?_ ?_ ?_ V0 ?_ done
  · intro b hb
    rw [Heap.size_push]
    rcases List.mem_cons.mp hb with rfl | hb
    · exact Nat.lt_succ_self _
    · rw [List.mem_singleton.mp hb]; exact Nat.lt_succ_of_lt hlt
  · rintro i h ⟨⟨o, ho, _⟩, _⟩; exact ⟨o, ho⟩
  · rintro i h h' o nw ⟨⟨o', ho, r⟩, _⟩ e e' _ N' hs
    rw [e] at ho; cases ho
    exact ⟨⟨_, e', r⟩, ⟨_, (N' _ (hS nw hs)).1, rfl, _, rfl⟩⟩
  · intro i s' v Q' E' _ hq; exact wpAny_pure hq
  · rintro i v ys gs nw oI C oC D oD h tk m₂ E' hi hv hV hC F₁ N₁ off hne
    refine assignC (s := { s with heap := h, gens := gs, toks := tk }) F₁ N₁ hC hne.1 (fun p hp => ?_) hx hkind fun h' oC' hC' F₂ N₂ => ?_
    · rcases List.mem_cons.mp hp with rfl | hp
      · exact hne.2.2.symm
      · exact (off p hp).2.1
    · exact turn i v ys gs nw _ oI C oC' D oD h' _ m₂ E' hv hV hC' F₂ N₂ off hne
theorem CompG.list4 {x1 x2 x3 x4 : Str} {p1 p2 p3 p4 tp : Pos} {tk0} {l : Addr} {its : List Value} {k : Nat} {S : List (Addr × Obj) → Prop} (hl : (l, W.listOf its.toArray k) ∈ news) (hn : its.length ≤ sizeLine) (hh : A.handled = none)
    (hx1 : scope.names.lookup x1 = some .local) (hx2 : scope.names.lookup x2 = some .local) (hx3 : scope.names.lookup x3 = some .local) (hx4 : scope.names.lookup x4 = some .local) (hkind : scope.kind = .function) (F : Fr g L s.heap m) (N : News g L s.heap news) (V0 : V 0 [] s.gens news) (hS : ∀ nw, S nw → (l, W.listOf its.toArray k) ∈ nw)
    (PR : Nat → Value → Value → Value → Value → Prop) (row : ∀ i v ys gs nw, its[i]? = some v → V i ys gs nw → ∃ Dr k v1 v2 v3 v4, v = .ref Dr ∧ (Dr, W.listOf #[v1, v2, v3, v4] k) ∈ nw ∧ PR i v1 v2 v3 v4)
    (turn : ∀ i v1 v2 v3 v4 ys gs nw I oI C oC D oD h tk m₂ E', i < its.length → PR i v1 v2 v3 v4 → V i ys gs nw → LCg.NsObj oC (nm1 x4 v4 (nm1 x3 v3 (nm1 x2 v2 (nm1 x1 v1 m₂)))) → Fr g L h m → News g L h ((I, oI) :: (C, oC) :: (D, oD) :: nw) → (∀ p ∈ nw, p.1 ≠ I ∧ p.1 ≠ C ∧ p.1 ≠ D) → (I ≠ C ∧ I ≠ D ∧ C ≠ D) →
        wpAny (model prog w) A (eval elt (compEnvC scope cl C env)) (TurnEnd g L m s I C D oI oD (fun y gs' nw' => V (i + 1) (ys ++ [y]) gs' nw')) E' { s with heap := h, gens := gs, toks := tk })
    (done : ∀ ys gs nw D C k h tk, V its.length ys gs nw → ys.length = its.length → Fr g L h m → News g L h ((D, W.listOf ys.toArray k) :: nw) → (∀ p ∈ nw, p.1 ≠ D ∧ p.1 ≠ C) → Fin ys D C { s with heap := h, gens := gs, toks := tk }) :
    wpAny (model prog w) A (pyIter (.ref l)) (fun it s₂ => CompG prog w A elt (.Tuple [.Name x1 p1, .Name x2 p2, .Name x3 p3, .Name x4 p4] tk0 tp) env scope cl g L m V S it s₂ Fin) E s := by
  have hll : s.heap.IsList l its.toArray := ⟨_, (N _ hl).1, rfl, _, rfl⟩
  have hlt : l < s.heap.objs.size := Heap.lt_size (N _ hl).1
  refine wpAny_pyIter_list hll ?_
  refine CompG.mk (s.heap.objs.size) ([s.heap.objs.size, l]) (its.length) (fun i v => its[i]? = some v) (fun i h => h.IsListIter s.heap.objs.size l i ∧ h.IsList l its.toArray) news rfl ((by simpa using Walks.list hh s.heap.objs.size l (Nat.ne_of_lt hlt) its.toArray)) hn (⟨⟨_, Heap.get?_push_size _ rfl, rfl, rfl⟩, hll.push _⟩) ?_ (F.push _) (News.grown N (fun _ _ e => Heap.get?_push_of_some _ e)) (next_not N) (next_g F) (Nat.ne_of_lt F.ns.lt) ?_ ?_ ?_ V0 ?_ done
  · intro b hb
    rw [Heap.size_push]
    rcases List.mem_cons.mp hb with rfl | hb
    · exact Nat.lt_succ_self _
    · rw [List.mem_singleton.mp hb]; exact Nat.lt_succ_of_lt hlt
  · rintro i h ⟨⟨o, ho, _⟩, _⟩; exact ⟨o, ho⟩
  · rintro i h h' o nw ⟨⟨o', ho, r⟩, _⟩ e e' _ N' hs
    rw [e] at ho; cases ho
    exact ⟨⟨_, e', r⟩, ⟨_, (N' _ (hS nw hs)).1, rfl, _, rfl⟩⟩
  · intro i s' v Q' E' hst hq; exact letGo_listiter hst.1 hq
  · rintro i v ys gs nw oI C oC D oD h tk m₂ E' hi hv hV hC F₁ N₁ off hne
    obtain ⟨Dr, kr, v1, v2, v3, v4, rfl, hrow, hPR⟩ := row i v ys gs nw hv hV
    have hoffC : ∀ p ∈ (D, oD) :: nw, p.1 ≠ C := fun p hp => by
      rcases List.mem_cons.mp hp with rfl | hp
      · exact hne.2.2.symm
      · exact (off p hp).2.1
    refine assign_TupleL (s := { s with heap := h, gens := gs, toks := tk }) hh (items := #[v1, v2, v3, v4]) ⟨_, (N₁ _ (.tail _ (.tail _ (.tail _ hrow)))).1, rfl, _, rfl⟩ rfl rfl fun h₂ he => ?_
    have up : ∀ b o, h.get? b = some o → h₂.get? b = some o := fun b o e => he b o (Nat.ne_of_lt (Heap.lt_size e)) e
    have F₂ : Fr g L h₂ m := ⟨F₁.ns.at' fun o e => up _ o e, fun b o e => up _ _ (F₁.keep b o e), F₁.above⟩
    have N₂ := News.grown N₁ up
    refine assignInOrder_cons (assignC F₂ N₂ hC hne.1 hoffC hx1 hkind fun h₃ oC₃ hC₃ F₃ N₃ => ?_)
    refine assignInOrder_cons (assignC F₃ N₃ hC₃ hne.1 hoffC hx2 hkind fun h₄ oC₄ hC₄ F₄ N₄ => ?_)
    refine assignInOrder_cons (assignC F₄ N₄ hC₄ hne.1 hoffC hx3 hkind fun h₅ oC₅ hC₅ F₅ N₅ => ?_)
    refine assignInOrder_cons (assignC F₅ N₅ hC₅ hne.1 hoffC hx4 hkind fun h₆ oC₆ hC₆ F₆ N₆ => ?_)
    refine assignInOrder_nil ?_
    exact turn i v1 v2 v3 v4 ys gs nw _ oI C oC₆ D oD h₆ _ m₂ E' hi hPR hV hC₆ F₆ N₆ off hne
theorem tup_int_at {value slice : PySem.Expr} {l : Addr} {vs : List Value} {ns : List Int} {k : Int} {u : Tok} {Q : Value → Shared → Prop} (ht : IsTup s.heap l vs.toArray) (hw : IntsAre vs ns) (h0 : 0 ≤ k) (h1 : k < (ns.length : Int)) (hfit : k < 2 ^ 63) (h : ∀ t', Q (.int (ns.getD k.toNat 0) t') s)
    (hs : subscripted slice false (.ref l) (.int k u) = operate [.ref l, .int k u] (getItem (.ref l) (.int k u)) := by with_unfolding_all rfl) :
    wpAny (model prog w) A (subscriptTail value slice (.ref l) (.int k u)) Q E s := by
  have hlt : k.toNat < ns.length := by omega
  obtain ⟨t', e⟩ := hw.get k.toNat (ns.getD k.toNat 0) (by rw [List.getD_eq_getElem?_getD, List.getElem?_eq_getElem hlt]; rfl)
  have hn : k < ((vs.toArray.size : Nat) : Int) := by rw [List.size_toArray, hw.length]; exact h1
  exact tail_any ht.typeIs slot_tuple_getitem.lookup (getItem_tuple ht (by omega) hfit (seqIndex_of h0 hn) (x := .int _ t') (by simpa using e) (h t')) hs
end
theorem ints_all {vs : List Value} {ns : List Int} (h : IntsAre vs ns) : ∀ v ∈ vs, ∃ n t, v = .int n t := by
  induction h with
  | nil => intro v hv; cases hv
  | cons n t _ ih =>
    intro v hv
    rcases List.mem_cons.mp hv with rfl | hv
    · exact ⟨n, t, rfl⟩
    · exact ih v hv
theorem ints_pick {vs : List Value} {ns : List Int} (h : IntsAre vs ns) (lo hi st : Option Int) : ∃ ms, IntsAre (slicePick vs.toArray lo hi st).toList ms := by
  unfold slicePick
  rw [List.toList_toArray]
  generalize sliceRange _ _ _ = l
  induction l with
  | nil => exact ⟨[], .nil⟩
  | cons a l ih =>
    obtain ⟨ms, hm⟩ := ih
    rw [List.filterMap_cons]
    cases e : vs.toArray[a]? with
    | none => exact ⟨ms, by simpa [e] using hm⟩
    | some v =>
      obtain ⟨n, t, rfl⟩ := ints_all h v (List.mem_of_getElem? (by simpa using e))
      exact ⟨n :: ms, by simpa [e] using IntsAre.cons n t hm⟩
section
variable {g h h' : Heap} {L I C D l : Addr} {m m' : Str → Option Value} {oI oC oD o : Obj} {fx rows : List (Addr × Obj)} {s : Shared} {gs : Array GenState} {tk : Nat} {W : Value → Array GenState → List (Addr × Obj) → Prop} {y : Value}
theorem TurnEnd.snoc (N : News g L h ((I, oI) :: (C, oC) :: (D, oD) :: (fx ++ rows))) (F : Fr g L h m) (hC : LCg.NsObj oC m') (off : ∀ p ∈ fx ++ rows, p.1 ≠ I ∧ p.1 ≠ C ∧ p.1 ≠ D) (up : h.StaysIn h') (hl : h'.get? l = some o) (fr : h.get? l = none) (hV : W y gs (fx ++ (rows ++ [(l, o)]))) :
    TurnEnd g L m s I C D oI oD W y { s with heap := h', gens := gs, toks := tk } := by
  have fD : ∀ b o, h.get? b = some o → b ≠ l := fun b o e q => by rw [q, fr] at e; cases e
  have N' := news_more F N up fD hl
  refine ⟨h', tk, gs, fx ++ (rows ++ [(l, o)]), oC, m', rfl, F.keeps up, hC, fun q hq => N' q ?_, fun p hp => ?_, hV⟩
  · rcases List.mem_cons.mp hq with rfl | hq
    · exact .tail _ (.head _)
    · rcases List.mem_cons.mp hq with rfl | hq
      · exact .tail _ (.tail _ (.head _))
      · rcases List.mem_cons.mp hq with rfl | hq
        · exact .tail _ (.tail _ (.tail _ (.head _)))
        · rw [← List.append_assoc] at hq
          rcases List.mem_append.mp hq with hq | hq
          · exact .tail _ (.tail _ (.tail _ (.tail _ hq)))
          · rw [List.mem_singleton.mp hq]; exact .head _
  · rw [← List.append_assoc] at hp
    rcases List.mem_append.mp hp with hp | hp
    · exact off p hp
    · rw [List.mem_singleton.mp hp]
      exact ⟨(fD _ _ (N _ (.head _)).1).symm, (fD _ _ (N _ (.tail _ (.head _))).1).symm, (fD _ _ (N _ (.tail _ (.tail _ (.head _)))).1).symm⟩
end
theorem LR.notcell {rows : List (Addr × Obj)} {ps : List (List Int)} (h : LR rows ps) : ∀ p ∈ rows, ∀ v, p.2.data ≠ .cell v := by
  intro p hp v e
  obtain ⟨j, hj, rfl⟩ := List.getElem_of_mem hp
  obtain ⟨vs, n, e1, _⟩ := h.2 j rows[j] (ps[j]'(h.1 ▸ hj)) (List.getElem?_eq_getElem hj) (List.getElem?_eq_getElem (h.1 ▸ hj))
  rw [e1] at e
  cases e
section
variable {M : Model} {A : Around} {E : Value → Shared → Prop} {s : Shared} {name : Str} {scope : Scope} {L a : Addr} {cd : Value} {h₀ : Heap} {m : Str → Option Value}
theorem stCellR {x : Str} {c : Addr} {o : Obj} {v₀ : Option Value} {v : Value} {hd rs : List (Addr × Obj)} {gg : Obj → List (Addr × Obj)} {Q : Unit → Shared → Prop} (F : Fr h₀ L s.heap m) (N : News h₀ L s.heap (hd ++ rs))
    (hc : (cellsFrom (L + 1) scope.names []).lookup x = some c) (U : UpdF c o hd gg) (ho : o.data = .cell v₀) (hrs : ∀ p ∈ rs, ∀ v, p.2.data ≠ .cell v)
    (h : ∀ h' o', Fr h₀ L h' m → News h₀ L h' (gg o' ++ rs) → o'.data = .cell (some v) → Q () { s with heap := h' })
    (hk : scope.kind = .function := by rfl) (hl : (envOfC name scope L a cd).kindOf x = some .cell := by rfl) :
    wpAny M A (storeName (envOfC name scope L a cd) x v) Q E s := by
  obtain ⟨own, rest, rfl, hg, h1, h2⟩ := U.split
  rw [List.append_assoc, List.cons_append] at N
  refine stCN F N hc ho h1 (fun p hp => ?_) (fun h' o' F' N' d' => h h' o' F' (by rw [hg o', List.append_assoc, List.cons_append]; exact N') d') hk hl
  rcases List.mem_append.mp hp with hp | hp
  · exact h2 p hp
  · intro e
    have e1 := (N p (List.mem_append_right _ (.tail _ (List.mem_append_right _ hp)))).1
    rw [e, (N (c, o) (List.mem_append_right _ (.head _))).1] at e1
    exact hrs p hp v₀ (Option.some.inj e1 ▸ ho)
end
theorem refs_snoc {rows : List (Addr × Obj)} {l : Addr} {o : Obj} : refs (rows ++ [(l, o)]) = refs rows ++ [.ref l] := by unfold refs; rw [List.map_append]; rfl
noncomputable abbrev NC (p : Addr × Obj) : Prop := (∀ v, p.2.data ≠ .cell v) ∧ p.2.cls ≠ .none
theorem LR.nc {rows : List (Addr × Obj)} {ps : List (List Int)} (h : LR rows ps) : ∀ p ∈ rows, NC p := fun p hp => ⟨h.notcell p hp, fun e => by
  obtain ⟨j, hj, rfl⟩ := List.getElem_of_mem hp
  obtain ⟨vs, n, e1, _⟩ := h.2 j rows[j] (ps[j]'(h.1 ▸ hj)) (List.getElem?_eq_getElem hj) (List.getElem?_eq_getElem (h.1 ▸ hj))
  rw [e1] at e
  cases e⟩
theorem News.rot {g h : Heap} {L : Addr} {x : Addr × Obj} {hd : List (Addr × Obj)} (N : News g L h (x :: hd)) : News g L h (hd ++ [x]) := fun p hp => by
  rcases List.mem_append.mp hp with hp | hp
  · exact N p (.tail _ hp)
  · rw [List.mem_singleton.mp hp]; exact N x (.head _)
theorem News.absorb {g h : Heap} {L D : Addr} {o : Obj} {hd rs rows fx : List (Addr × Obj)} (N : News g L h ((D, o) :: (fx ++ rows))) (hfx : hd ++ rs = fx) (h1 : ∀ p ∈ rs, NC p) (h2 : ∀ p ∈ rows, NC p) (h3 : NC (D, o)) :
    ∃ rs', News g L h (hd ++ rs') ∧ (∀ p ∈ rs', NC p) ∧ (∀ p ∈ rs, p ∈ rs') ∧ (∀ p ∈ rows, p ∈ rs') ∧ (D, o) ∈ rs' := by
  subst hfx
  refine ⟨(D, o) :: (rs ++ rows), fun p hp => ?_, fun p hp => ?_, fun p hp => .tail _ (List.mem_append_left _ hp), fun p hp => .tail _ (List.mem_append_right _ hp), .head _⟩
  · rcases List.mem_append.mp hp with hp | hp
    · exact N p (.tail _ (List.mem_append_left _ (List.mem_append_left _ hp)))
    · rcases List.mem_cons.mp hp with rfl | hp
      · exact N _ (.head _)
      · rcases List.mem_append.mp hp with hp | hp
        · exact N p (.tail _ (List.mem_append_left _ (List.mem_append_right _ hp)))
        · exact N p (.tail _ (List.mem_append_right _ hp))
  · rcases List.mem_cons.mp hp with rfl | hp
    · exact h3
    · rcases List.mem_append.mp hp with hp | hp
      · exact h1 p hp
      · exact h2 p hp
theorem News.fix2 {g h : Heap} {L : Addr} {hd rs : List (Addr × Obj)} (N : News g L h (hd ++ rs)) : ∃ fx, hd ++ rs = fx ∧ News g L h fx := ⟨_, rfl, N⟩
theorem News.split1 {g h : Heap} {L : Addr} {x : Addr × Obj} {hd : List (Addr × Obj)} (N : News g L h (x :: hd)) (hx : NC x) : ∃ rs, News g L h (hd ++ rs) ∧ (∀ p ∈ rs, NC p) ∧ x ∈ rs :=
  ⟨[x], News.rot N, fun p hp => by rw [List.mem_singleton.mp hp]; exact hx, List.mem_singleton.mpr rfl⟩
theorem News.front {g h : Heap} {L : Addr} {x : Addr × Obj} {a b : List (Addr × Obj)} (N : News g L h (a ++ x :: b)) : News g L h (x :: (a ++ b)) := fun p hp => by
  rcases List.mem_cons.mp hp with rfl | hp
  · exact N _ (List.mem_append_right _ (.head _))
  · rcases List.mem_append.mp hp with hp | hp
    · exact N p (List.mem_append_left _ hp)
    · exact N p (List.mem_append_right _ (.tail _ hp))
noncomputable def TabC (l c : Nat) (qual : Str) (g : Heap) (tab : Obj) (cs : List (Addr × Obj)) : Prop := tab = tabObj #[] ∨ ∃ c' oc vs t, tab = tabObj #[rawInt l, rawInt c, .ref c'] ∧ (g.get? c' = some oc ∨ (c', oc) ∈ cs) ∧ oc.data = .fields vs ∧ vs[1]? = some (.str qual t)
theorem TabC.ok {P : Addr} {l c : Nat} {qual : Str} {g h : Heap} {L : Addr} {tab : Obj} {cs : List (Addr × Obj)} (x : TabC l c qual g tab cs) (hP : h.get? P = some tab) (st : g.StaysIn h) (N : News g L h cs) : TabOk P l c qual h := by
  rcases x with rfl | ⟨c', oc, vs, t, rfl, hc, hd, hv⟩
  · exact .inl hP
  · exact .inr ⟨c', hP, c', oc, vs, t, rfl, hc.elim (fun e => st _ _ e) (fun hm => (N _ hm).1), hd, hv⟩
theorem TurnEnd.snocT {P : Addr} {l0 c0 : Nat} {qual : Str} {g h h' : Heap} {L I C D l : Addr} {m m' : Str → Option Value} {oI oC oD o tab : Obj} {fx cs rows : List (Addr × Obj)} {s : Shared} {gs : Array GenState} {tk : Nat} {W : Value → Array GenState → List (Addr × Obj) → Prop} {y : Value}
    (N : News g L h ((I, oI) :: (C, oC) :: (D, oD) :: (P, tab) :: (fx ++ (cs ++ rows)))) (F : Fr g L h m) (hC : LCg.NsObj oC m') (off : ∀ p ∈ (P, tab) :: (fx ++ (cs ++ rows)), p.1 ≠ I ∧ p.1 ≠ C ∧ p.1 ≠ D) (offP : ∀ p ∈ fx ++ (cs ++ rows), p.1 ≠ P) (up : Ex [P] h h') (hT : TabStep P l0 c0 qual h h') (tc : TabC l0 c0 qual g tab cs) (hl : h'.get? l = some o) (fr : h.get? l = none)
    (hV : ∀ tab' cs', TabC l0 c0 qual g tab' cs' → (∀ p ∈ fx ++ (cs' ++ (rows ++ [(l, o)])), p.1 ≠ P) → W y gs ((P, tab') :: (fx ++ (cs' ++ (rows ++ [(l, o)]))))) :
    TurnEnd g L m s I C D oI oD W y { s with heap := h', gens := gs, toks := tk } := by
  have eP := (N _ (.tail _ (.tail _ (.tail _ (.head _))))).1
  have nP := (N _ (.tail _ (.tail _ (.tail _ (.head _))))).2
  have eI := (N _ (.head _)).1
  have eC := (N _ (.tail _ (.head _))).1
  have eD := (N _ (.tail _ (.tail _ (.head _)))).1
  have oP := off _ (.head _)
  have keep : ∀ p : Addr × Obj, h.get? p.1 = some p.2 → p.1 ≠ P → h'.get? p.1 = some p.2 := fun p e hp => up _ _ (fun hm => hp (List.mem_singleton.mp hm)) e
  have F' : Fr g L h' m := ⟨F.ns.at' fun o e => up _ _ (fun hm => nP.1 (List.mem_singleton.mp hm).symm) e, fun b o e => up _ _ (fun hm => by rw [List.mem_singleton.mp hm, nP.2] at e; cases e) (F.keep _ _ e), F.above⟩
  have ne : ∀ b o', h.get? b = some o' → b ≠ l := fun b o' e q => by rw [q, fr] at e; cases e
  have lL : l ≠ L := fun e => by
    obtain ⟨o', es, ep, ho, _⟩ := F.ns
    exact ne _ _ ho e.symm
  have lg : g.get? l = none := by
    cases q : g.get? l with
    | none => rfl
    | some o' => exact absurd rfl (ne _ _ (F.keep _ _ q))
  have fin : ∀ tab' cs', h'.get? P = some tab' → TabC l0 c0 qual g tab' cs' → (∀ p : Addr × Obj, p ∈ cs' → h'.get? p.1 = some p.2 ∧ p.1 ≠ L ∧ g.get? p.1 = none ∧ p.1 ≠ P ∧ p.1 ≠ I ∧ p.1 ≠ C ∧ p.1 ≠ D) → TurnEnd g L m s I C D oI oD W y { s with heap := h', gens := gs, toks := tk } := by
    intro tab' cs' eT hT' hcs
    refine ⟨h', tk, gs, _, oC, m', rfl, F', hC, fun q hq => ?_, fun p hp => ?_, hV tab' cs' hT' fun p hp => ?_⟩
    · rcases List.mem_cons.mp hq with rfl | hq
      · exact ⟨keep (I, oI) eI oP.1.symm, (N _ (.head _)).2⟩
      · rcases List.mem_cons.mp hq with rfl | hq
        · exact ⟨keep (C, oC) eC oP.2.1.symm, (N _ (.tail _ (.head _))).2⟩
        · rcases List.mem_cons.mp hq with rfl | hq
          · exact ⟨keep (D, oD) eD oP.2.2.symm, (N _ (.tail _ (.tail _ (.head _)))).2⟩
          · rcases List.mem_cons.mp hq with rfl | hq
            · exact ⟨eT, nP⟩
            · rcases List.mem_append.mp hq with hq | hq
              · have z := N q (.tail _ (.tail _ (.tail _ (.tail _ (List.mem_append_left _ hq)))))
                exact ⟨keep _ z.1 (offP q (List.mem_append_left _ hq)), z.2⟩
              · rcases List.mem_append.mp hq with hq | hq
                · exact ⟨(hcs q hq).1, (hcs q hq).2.1, (hcs q hq).2.2.1⟩
                · rcases List.mem_append.mp hq with hq | hq
                  · have z := N q (.tail _ (.tail _ (.tail _ (.tail _ (List.mem_append_right _ (List.mem_append_right _ hq))))))
                    exact ⟨keep _ z.1 (offP q (List.mem_append_right _ (List.mem_append_right _ hq))), z.2⟩
                  · rw [List.mem_singleton.mp hq]; exact ⟨hl, lL, lg⟩
    · rcases List.mem_cons.mp hp with rfl | hp
      · exact oP
      · rcases List.mem_append.mp hp with hp | hp
        · exact off p (.tail _ (List.mem_append_left _ hp))
        · rcases List.mem_append.mp hp with hp | hp
          · exact (hcs p hp).2.2.2.2
          · rcases List.mem_append.mp hp with hp | hp
            · exact off p (.tail _ (List.mem_append_right _ (List.mem_append_right _ hp)))
            · rw [List.mem_singleton.mp hp]; exact ⟨(ne _ _ eI).symm, (ne _ _ eC).symm, (ne _ _ eD).symm⟩
    · rcases List.mem_append.mp hp with hp | hp
      · exact offP p (List.mem_append_left _ hp)
      · rcases List.mem_append.mp hp with hp | hp
        · exact (hcs p hp).2.2.2.1
        · rcases List.mem_append.mp hp with hp | hp
          · exact offP p (List.mem_append_right _ (List.mem_append_right _ hp))
          · rw [List.mem_singleton.mp hp]; exact (ne _ _ eP).symm
  rcases hT with e | ⟨c', e, ⟨c'', oc, vs, t, e2, ho, hd, hv⟩, hf⟩
  · refine fin tab cs (e.trans eP) tc fun p hp => ?_
    have hm : p ∈ fx ++ (cs ++ rows) := List.mem_append_right _ (List.mem_append_left _ hp)
    have z := N p (.tail _ (.tail _ (.tail _ (.tail _ hm))))
    exact ⟨keep _ z.1 (offP p hm), z.2.1, z.2.2, offP p hm, off p (.tail _ hm)⟩
  · cases e2
    have ne' : ∀ b o', h.get? b = some o' → c' ≠ b := fun b o' e q => by rw [← q, hf] at e; cases e
    refine fin _ [(c', oc)] e (.inr ⟨c', oc, vs, t, rfl, .inr (.head _), hd, hv⟩) fun p hp => ?_
    rw [List.mem_singleton.mp hp]
    refine ⟨ho, fun e => ?_, ?_, ne' _ _ eP, ne' _ _ eI, ne' _ _ eC, ne' _ _ eD⟩
    · obtain ⟨o', es, ep, ho', _⟩ := F.ns
      exact ne' _ _ ho' e
    · cases q : g.get? c' with
      | none => rfl
      | some o' => exact absurd rfl (ne' _ _ (F.keep _ _ q))
theorem News.fix1 {g h : Heap} {L : Addr} {x : Addr × Obj} {l : List (Addr × Obj)} (N : News g L h (x :: l)) : ∃ fx, l = fx ∧ News g L h (x :: fx) := ⟨_, rfl, N⟩
theorem off_of {g h : Heap} {L P : Addr} {fx : List (Addr × Obj)} (N : News g L h ((P, tabObj #[]) :: fx)) (hf : ∀ p ∈ fx, @Ne Nat p.1 P ∨ NC p) : ∀ p ∈ fx, p.1 ≠ P := fun p hp => by
  rcases hf p hp with h | h
  · exact h
  · intro e
    have e1 := (N p (.tail _ hp)).1
    rw [e, (N _ (.head _)).1] at e1
    exact h.2 (by rw [← Option.some.inj e1])
theorem TabStep.back {P : Addr} {l c : Nat} {q : Str} {h h8 h9 : Heap} {o : Obj} (x : TabStep P l c q h8 h9) (st : h.StaysIn h8) (hP : h.get? P = some o) : TabStep P l c q h h9 := by
  rcases x with e | ⟨c', e, hc, hf⟩
  · exact .inl (e.trans ((st _ _ hP).trans hP.symm))
  · refine .inr ⟨c', e, hc, ?_⟩
    cases q : h.get? c' with
    | none => rfl
    | some o => rw [st _ _ q] at hf; cases hf
theorem fresh_back {h h8 : Heap} {D : Addr} (st : h.StaysIn h8) (hf : h8.get? D = none) : h.get? D = none := by
  cases q : h.get? D with
  | none => rfl
  | some o => rw [st _ _ q] at hf; cases hf
theorem News.absorb2 {g h : Heap} {L D : Addr} {o : Obj} {x : Addr × Obj} {a b rs cs rows fx : List (Addr × Obj)} (N : News g L h ((D, o) :: x :: (fx ++ (cs ++ rows)))) (hfx : a ++ (b ++ rs) = fx) (h1 : ∀ p ∈ rs, NC p) (h2 : ∀ p ∈ rows, NC p) (h3 : NC (D, o)) :
    ∃ rs', News g L h ((a ++ x :: b) ++ rs') ∧ (∀ p ∈ rs', NC p) ∧ (∀ p ∈ rs, p ∈ rs') ∧ (∀ p ∈ rows, p ∈ rs') ∧ (D, o) ∈ rs' := by
  subst hfx
  refine ⟨(D, o) :: (rs ++ rows), fun p hp => ?_, fun p hp => ?_, fun p hp => .tail _ (List.mem_append_left _ hp), fun p hp => .tail _ (List.mem_append_right _ hp), .head _⟩
  · rcases List.mem_append.mp hp with hp | hp
    · rcases List.mem_append.mp hp with hp | hp
      · exact N p (.tail _ (.tail _ (List.mem_append_left _ (List.mem_append_left _ hp))))
      · rcases List.mem_cons.mp hp with rfl | hp
        · exact N _ (.tail _ (.head _))
        · exact N p (.tail _ (.tail _ (List.mem_append_left _ (List.mem_append_right _ (List.mem_append_left _ hp)))))
    · rcases List.mem_cons.mp hp with rfl | hp
      · exact N _ (.head _)
      · rcases List.mem_append.mp hp with hp | hp
        · exact N p (.tail _ (.tail _ (List.mem_append_left _ (List.mem_append_right _ (List.mem_append_right _ hp)))))
        · exact N p (.tail _ (.tail _ (List.mem_append_right _ (List.mem_append_right _ hp))))
  · rcases List.mem_cons.mp hp with rfl | hp
    · exact h3
    · rcases List.mem_append.mp hp with hp | hp
      · exact h1 p hp
      · exact h2 p hp
noncomputable def datL (q : List Int) : PySem.W.Dat := .list (q.map .int)
theorem ints_dat {news : List (Addr × Obj)} {vs : List Value} {q : List Int} (h : IntsAre vs q) : PySem.W.DatAll news vs (q.map .int) := by
  induction h with
  | nil => exact .nil
  | cons n t _ ih => exact .cons (.int n t) ih
theorem LR.dat {news : List (Addr × Obj)} : ∀ {rows : List (Addr × Obj)} {ps : List (List Int)}, LR rows ps → (∀ p ∈ rows, p ∈ news) → PySem.W.DatAll news (refs rows) (ps.map datL)
  | [], ps, h, _ => by
    have : ps = [] := List.eq_nil_of_length_eq_zero h.1.symm
    subst this
    exact .nil
  | p :: rows, ps, h, hs => by
    cases ps with
    | nil => exact absurd h.1 (by simp)
    | cons q ps =>
      obtain ⟨vs, n, e1, e2⟩ := h.2 0 p q rfl rfl
      have e3 : (p.1, PySem.W.listOf vs.toArray n) ∈ news := by rw [← e1]; exact hs p (.head _)
      refine .cons (.list e3 (ints_dat e2)) (LR.dat ⟨by have := h.1; simpa using this, fun j p' q' hj hq => h.2 (j + 1) p' q' (by simpa using hj) (by simpa using hq)⟩ fun p hp => hs p (.tail _ hp))
theorem dat_ok (ps : List (List Int)) : ∀ d ∈ ps.map datL, PySem.W.kqdOk 8 d = true := by
  intro d hd
  obtain ⟨q, _, rfl⟩ := List.mem_map.mp hd
  unfold datL
  rw [PySem.W.kqdOk, List.all_eq_true]
  intro e he
  obtain ⟨x, _, rfl⟩ := List.mem_map.mp he
  simp [PySem.W.kqdOk]
theorem News.add {g h h' : Heap} {L : Addr} {m : Str → Option Value} {hd rs os : List (Addr × Obj)} (N : News g L h (hd ++ rs)) (F : Fr g L h m) (st : h.StaysIn h') (ho : ∀ p ∈ os, h'.get? p.1 = some p.2 ∧ h.get? p.1 = none) : News g L h' (hd ++ (os ++ rs)) := fun p hp => by
  rcases List.mem_append.mp hp with hp | hp
  · exact ⟨st _ _ (N p (List.mem_append_left _ hp)).1, (N p (List.mem_append_left _ hp)).2⟩
  · rcases List.mem_append.mp hp with hp | hp
    · have z := ho p hp
      refine ⟨z.1, fun e => ?_, ?_⟩
      · obtain ⟨o, es, ep, ho, _⟩ := F.ns
        rw [← e, z.2] at ho; cases ho
      · cases q : g.get? p.1 with
        | none => rfl
        | some o => have := F.keep _ _ q; rw [z.2] at this; cases this
    · exact ⟨st _ _ (N p (List.mem_append_right _ hp)).1, (N p (List.mem_append_right _ hp)).2⟩
theorem TurnEnd.snocTs {P : Addr} {l0 c0 : Nat} {qual : Str} {g h h' : Heap} {L I C D : Addr} {m m' : Str → Option Value} {oI oC oD tab : Obj} {fx cs rows os : List (Addr × Obj)} {s : Shared} {gs : Array GenState} {tk : Nat} {W : Value → Array GenState → List (Addr × Obj) → Prop} {y : Value}
    (N : News g L h ((I, oI) :: (C, oC) :: (D, oD) :: (P, tab) :: (fx ++ (cs ++ rows)))) (F : Fr g L h m) (hC : LCg.NsObj oC m') (off : ∀ p ∈ (P, tab) :: (fx ++ (cs ++ rows)), p.1 ≠ I ∧ p.1 ≠ C ∧ p.1 ≠ D) (offP : ∀ p ∈ fx ++ (cs ++ rows), p.1 ≠ P) (up : Ex [P] h h') (hT : TabStep P l0 c0 qual h h') (tc : TabC l0 c0 qual g tab cs) (hos : ∀ p ∈ os, h'.get? p.1 = some p.2 ∧ h.get? p.1 = none)
    (hV : ∀ tab' cs', TabC l0 c0 qual g tab' cs' → (∀ p ∈ fx ++ (cs' ++ (rows ++ os)), p.1 ≠ P) → W y gs ((P, tab') :: (fx ++ (cs' ++ (rows ++ os))))) :
    TurnEnd g L m s I C D oI oD W y { s with heap := h', gens := gs, toks := tk } := by
  have eP := (N _ (.tail _ (.tail _ (.tail _ (.head _))))).1
  have nP := (N _ (.tail _ (.tail _ (.tail _ (.head _))))).2
  have eI := (N _ (.head _)).1
  have eC := (N _ (.tail _ (.head _))).1
  have eD := (N _ (.tail _ (.tail _ (.head _)))).1
  have oP := off _ (.head _)
  have keep : ∀ p : Addr × Obj, h.get? p.1 = some p.2 → p.1 ≠ P → h'.get? p.1 = some p.2 := fun p e hp => up _ _ (fun hm => hp (List.mem_singleton.mp hm)) e
  have F' : Fr g L h' m := ⟨F.ns.at' fun o e => up _ _ (fun hm => nP.1 (List.mem_singleton.mp hm).symm) e, fun b o e => up _ _ (fun hm => by rw [List.mem_singleton.mp hm, nP.2] at e; cases e) (F.keep _ _ e), F.above⟩
  have ne : ∀ p ∈ os, ∀ b o', h.get? b = some o' → b ≠ p.1 := fun p hp b o' e q => by rw [q, (hos p hp).2] at e; cases e
  have lL : ∀ p ∈ os, p.1 ≠ L := fun p hp e => by
    obtain ⟨o', es, ep, ho, _⟩ := F.ns
    exact ne p hp _ _ ho e.symm
  have lg : ∀ p ∈ os, g.get? p.1 = none := fun p hp => by
    cases q : g.get? p.1 with
    | none => rfl
    | some o' => exact absurd rfl (ne p hp _ _ (F.keep _ _ q))
  have fin : ∀ tab' cs', h'.get? P = some tab' → TabC l0 c0 qual g tab' cs' → (∀ p : Addr × Obj, p ∈ cs' → h'.get? p.1 = some p.2 ∧ p.1 ≠ L ∧ g.get? p.1 = none ∧ p.1 ≠ P ∧ p.1 ≠ I ∧ p.1 ≠ C ∧ p.1 ≠ D) → TurnEnd g L m s I C D oI oD W y { s with heap := h', gens := gs, toks := tk } := by
    intro tab' cs' eT hT' hcs
    refine ⟨h', tk, gs, _, oC, m', rfl, F', hC, fun q hq => ?_, fun p hp => ?_, hV tab' cs' hT' fun p hp => ?_⟩
    · rcases List.mem_cons.mp hq with rfl | hq
      · exact ⟨keep (I, oI) eI oP.1.symm, (N _ (.head _)).2⟩
      · rcases List.mem_cons.mp hq with rfl | hq
        · exact ⟨keep (C, oC) eC oP.2.1.symm, (N _ (.tail _ (.head _))).2⟩
        · rcases List.mem_cons.mp hq with rfl | hq
          · exact ⟨keep (D, oD) eD oP.2.2.symm, (N _ (.tail _ (.tail _ (.head _)))).2⟩
          · rcases List.mem_cons.mp hq with rfl | hq
            · exact ⟨eT, nP⟩
            · rcases List.mem_append.mp hq with hq | hq
              · have z := N q (.tail _ (.tail _ (.tail _ (.tail _ (List.mem_append_left _ hq)))))
                exact ⟨keep _ z.1 (offP q (List.mem_append_left _ hq)), z.2⟩
              · rcases List.mem_append.mp hq with hq | hq
                · exact ⟨(hcs q hq).1, (hcs q hq).2.1, (hcs q hq).2.2.1⟩
                · rcases List.mem_append.mp hq with hq | hq
                  · have z := N q (.tail _ (.tail _ (.tail _ (.tail _ (List.mem_append_right _ (List.mem_append_right _ hq))))))
                    exact ⟨keep _ z.1 (offP q (List.mem_append_right _ (List.mem_append_right _ hq))), z.2⟩
                  · exact ⟨(hos q hq).1, lL q hq, lg q hq⟩
    · rcases List.mem_cons.mp hp with rfl | hp
      · exact oP
      · rcases List.mem_append.mp hp with hp | hp
        · exact off p (.tail _ (List.mem_append_left _ hp))
        · rcases List.mem_append.mp hp with hp | hp
          · exact (hcs p hp).2.2.2.2
          · rcases List.mem_append.mp hp with hp | hp
            · exact off p (.tail _ (List.mem_append_right _ (List.mem_append_right _ hp)))
            · exact ⟨(ne p hp _ _ eI).symm, (ne p hp _ _ eC).symm, (ne p hp _ _ eD).symm⟩
    · rcases List.mem_append.mp hp with hp | hp
      · exact offP p (List.mem_append_left _ hp)
      · rcases List.mem_append.mp hp with hp | hp
        · exact (hcs p hp).2.2.2.1
        · rcases List.mem_append.mp hp with hp | hp
          · exact offP p (List.mem_append_right _ (List.mem_append_right _ hp))
          · exact (ne p hp _ _ eP).symm
  rcases hT with e | ⟨c', e, ⟨c'', oc, vs, t, e2, ho, hd, hv⟩, hf⟩
  · refine fin tab cs (e.trans eP) tc fun p hp => ?_
    have hm : p ∈ fx ++ (cs ++ rows) := List.mem_append_right _ (List.mem_append_left _ hp)
    have z := N p (.tail _ (.tail _ (.tail _ (.tail _ hm))))
    exact ⟨keep _ z.1 (offP p hm), z.2.1, z.2.2, offP p hm, off p (.tail _ hm)⟩
  · cases e2
    have ne' : ∀ b o', h.get? b = some o' → c' ≠ b := fun b o' e q => by rw [← q, hf] at e; cases e
    refine fin _ [(c', oc)] e (.inr ⟨c', oc, vs, t, rfl, .inr (.head _), hd, hv⟩) fun p hp => ?_
    rw [List.mem_singleton.mp hp]
    refine ⟨ho, fun e => ?_, ?_, ne' _ _ eP, ne' _ _ eI, ne' _ _ eC, ne' _ _ eD⟩
    · obtain ⟨o', es, ep, ho', _⟩ := F.ns
      exact ne' _ _ ho' e
    · cases q : g.get? c' with
      | none => rfl
      | some o' => exact absurd rfl (ne' _ _ (F.keep _ _ q))
end Mine
end
section
open PySem PySem.W PySem.Calls PyProof.Rows
set_option Elab.async false
set_option maxRecDepth 100000
set_option linter.unusedVariables false
namespace Mine
theorem step_some {row : List Int} {i : Nat} {last : Option Int} {v : Int} (h : row[i]? = some v) (h0 : v ≠ 0) (h1 : v ≠ 127) : stepAt row i last = some (v, .held (i + 1) v) := by
  unfold stepAt; rw [h]; show (if _ then _ else _) = _; rw [if_neg h1, if_neg h0]
theorem step_zero {row : List Int} {i : Nat} {l : Int} (h : row[i]? = some 0) : stepAt row i (some l) = some (l, .stuck l) := by
  unfold stepAt; rw [h]; rfl
theorem step_max {row : List Int} {i : Nat} {last : Option Int} (h : row[i]? = some 127) : stepAt row i last = none := by
  unfold stepAt; rw [h]; rfl
theorem step_end {row : List Int} {i : Nat} {last : Option Int} (h : row[i]? = none) : stepAt row i last = none := by
  unfold stepAt; rw [h]
theorem walk_marks (a b c f : Int) (ha : 1 ≤ a ∧ a ≤ 5) (hb : 1 ≤ b ∧ b ≤ 5) (hc : 1 ≤ c ∧ c ≤ 5) (hf : 0 ≤ f ∧ f < 4) : sums (-1) (pulls (rowOf a b c f) 4 .start) = marksOf a b c f := by
  have a0 : a ≠ 0 := by omega
  have a1 : a ≠ 127 := by omega
  have b0 : b ≠ 0 := by omega
  have b1 : b ≠ 127 := by omega
  have c0 : c ≠ 0 := by omega
  have c1 : c ≠ 127 := by omega
  have hh : f = 0 ∨ f = 1 ∨ f = 2 ∨ f = 3 := by omega
  rcases hh with rfl | rfl | rfl | rfl
  · show sums (-1) (pulls [a, b, 0, c] 4 .start) = [a - 1, a + b - 1, a + 2 * b - 1, a + 3 * b - 1]
    have e1 : nextG [a, b, 0, c] .start = some (a, .held 1 a) := by rw [nextG]; exact step_some rfl a0 a1
    have e2 : nextG [a, b, 0, c] (.held 1 a) = some (b, .held 2 b) := by rw [nextG]; exact step_some rfl b0 b1
    have e3 : nextG [a, b, 0, c] (.held 2 b) = some (b, .stuck b) := by rw [nextG]; exact step_zero rfl
    have e4 : nextG [a, b, 0, c] (.stuck b) = some (b, .stuck b) := by rw [nextG]
    rw [pulls_some e1, pulls_some e2, pulls_some e3, pulls_some e4]
    simp only [sums, pulls, List.cons.injEq, and_true]
    omega
  · show sums (-1) (pulls [a, b, c, 0] 4 .start) = [a - 1, a + b - 1, a + b + c - 1, a + b + 2 * c - 1]
    have e1 : nextG [a, b, c, 0] .start = some (a, .held 1 a) := by rw [nextG]; exact step_some rfl a0 a1
    have e2 : nextG [a, b, c, 0] (.held 1 a) = some (b, .held 2 b) := by rw [nextG]; exact step_some rfl b0 b1
    have e3 : nextG [a, b, c, 0] (.held 2 b) = some (c, .held 3 c) := by rw [nextG]; exact step_some rfl c0 c1
    have e4 : nextG [a, b, c, 0] (.held 3 c) = some (c, .stuck c) := by rw [nextG]; exact step_zero rfl
    rw [pulls_some e1, pulls_some e2, pulls_some e3, pulls_some e4]
    simp only [sums, pulls, List.cons.injEq, and_true]
    omega
  · show sums (-1) (pulls [a, b, c, 127, a] 4 .start) = [a - 1, a + b - 1, a + b + c - 1]
    have e1 : nextG [a, b, c, 127, a] .start = some (a, .held 1 a) := by rw [nextG]; exact step_some rfl a0 a1
    have e2 : nextG [a, b, c, 127, a] (.held 1 a) = some (b, .held 2 b) := by rw [nextG]; exact step_some rfl b0 b1
    have e3 : nextG [a, b, c, 127, a] (.held 2 b) = some (c, .held 3 c) := by rw [nextG]; exact step_some rfl c0 c1
    have e4 : nextG [a, b, c, 127, a] (.held 3 c) = none := by rw [nextG]; exact step_max rfl
    rw [pulls_some e1, pulls_some e2, pulls_some e3, pulls_none e4]
    simp only [sums, List.cons.injEq, and_true]
    omega
  · show sums (-1) (pulls [c, a, b] 4 .start) = [c - 1, a + c - 1, a + b + c - 1]
    have e1 : nextG [c, a, b] .start = some (c, .held 1 c) := by rw [nextG]; exact step_some rfl c0 c1
    have e2 : nextG [c, a, b] (.held 1 c) = some (a, .held 2 a) := by rw [nextG]; exact step_some rfl a0 a1
    have e3 : nextG [c, a, b] (.held 2 a) = some (b, .held 3 b) := by rw [nextG]; exact step_some rfl b0 b1
    have e4 : nextG [c, a, b] (.held 3 b) = none := by rw [nextG]; exact step_end rfl
    rw [pulls_some e1, pulls_some e2, pulls_some e3, pulls_none e4]
    simp only [sums, List.cons.injEq, and_true]
    omega
end Mine
end
section
open PySem PySem.W PySem.Calls PyProof.Rows
set_option Elab.async false
set_option maxRecDepth 100000
set_option maxHeartbeats 4000000
set_option linter.unusedVariables false
set_option linter.unusedSimpArgs false
namespace Mine
noncomputable def fdAt (K : Frag) (f : Addr) : Option FuncData := match K.lookup f with
  | some ⟨_, _, .func fd, _⟩ => some fd
  | _ => none
noncomputable def bodyAt (K : Frag) (f : Addr) : List Stmt := match fdAt K f with
  | some fd => (match fd.body with
    | .stmts b => b
    | _ => [])
  | none => []
noncomputable def scopeAt (K : Frag) (f : Addr) : Scope := match fdAt K f with
  | some fd => fd.scope
  | none => default
section
variable {M : Model} {A : Around} {K : Frag} {name qual : Str} {params : Arguments} {body : List Stmt} {scope : Scope} {dV kV doc pm cdv ct oc : Value} {an od : Option Addr} {osl : Array (Option Value)} {f : Addr} {n : Nat} {L : Addr} {Q : Flow → Shared → Prop} {E : Value → Shared → Prop} {s : Shared}
theorem lawCut (ho : K.lookup f = some ⟨oc, od, .func (fnOf name qual params body scope dV kV doc pm an cdv ct), osl⟩)
    (h : wpAny M (A.deeper (envOfC qual scope L f cdv)) (execs (body.drop n) (envOfC qual scope L f cdv)) Q E s) :
    wpAny M (A.deeper (envOfC qual (scopeAt K f) L f cdv)) (execs ((bodyAt K f).drop n) (envOfC qual (scopeAt K f) L f cdv)) Q E s := by
  have e1 : fdAt K f = some (fnOf name qual params body scope dV kV doc pm an cdv ct) := by unfold fdAt; rw [ho]
  have e2 : bodyAt K f = body := by unfold bodyAt; rw [e1]
  have e3 : scopeAt K f = scope := by unfold scopeAt; rw [e1]
  rw [e2, e3]; exact h
theorem lawCutI {rest : List Stmt} (n : Nat) (ho : K.lookup f = some ⟨oc, od, .func (fnOf name qual params body scope dV kV doc pm an cdv ct), osl⟩) (he : rest = body.drop n)
    (h : wpAny M (A.deeper (envOfC qual (scopeAt K f) L f cdv)) (execs ((bodyAt K f).drop n) (envOfC qual (scopeAt K f) L f cdv)) Q E s) :
    wpAny M (A.deeper (envOfC qual scope L f cdv)) (execs rest (envOfC qual scope L f cdv)) Q E s := by
  have e1 : fdAt K f = some (fnOf name qual params body scope dV kV doc pm an cdv ct) := by unfold fdAt; rw [ho]
  have e2 : bodyAt K f = body := by unfold bodyAt; rw [e1]
  have e3 : scopeAt K f = scope := by unfold scopeAt; rw [e1]
  rw [e2, e3, ← he] at h; exact h
end
noncomputable abbrev lawR (w : World) (n : Nat) : List Stmt := (bodyAt (KK w) 120).drop n
noncomputable abbrev lawEnv (w : World) (L : Addr) : Env := envOfC (Str.ofString "law") (scopeAt (KK w) 120) L 120 (.ref 119)
theorem LR.row {rows : List (Addr × Obj)} {ps : List Int} {f : Int → List Int} (h : LR rows (ps.map f)) {i : Nat} {v : Value} (hi : (refs rows)[i]? = some v) : ∃ r k vs n, v = .ref r ∧ (r, W.listOf (List.toArray vs) k) ∈ rows ∧ ps[i]? = some n ∧ IntsAre vs (f n) := by
  have hl := h.1
  rw [List.length_map] at hl
  have hil : i < rows.length := by
    by_cases z : i < rows.length
    · exact z
    · rw [List.getElem?_eq_none (by rw [List.length_map]; omega)] at hi; cases hi
  rw [List.getElem?_map, List.getElem?_eq_getElem hil] at hi
  cases hi
  obtain ⟨vs, n, e1, e2⟩ := h.2 i rows[i] (f (ps[i]'(hl ▸ hil))) (List.getElem?_eq_getElem hil) (by rw [List.getElem?_map, List.getElem?_eq_getElem (hl ▸ hil)]; rfl)
  have hp : ps[i]? = some (ps[i]'(hl ▸ hil)) := List.getElem?_eq_getElem (hl ▸ hil)
  exact ⟨rows[i].1, n, vs, _, rfl, by rw [← e1]; exact List.getElem_mem hil, hp, e2⟩
noncomputable def startsI : List Int := [107, 231, 355, 83, 10]
noncomputable def pa (n : Int) : Int := 1 + Int.fmod n 5
noncomputable def pb (n : Int) : Int := 1 + Int.fmod (Int.fdiv n 5) 5
noncomputable def pc (n : Int) : Int := 1 + Int.fmod (Int.fdiv n 100) 5
noncomputable def pf (n : Int) : Int := Int.fmod (Int.fdiv n 25) 4
noncomputable def partsI (n : Int) : List Int := [pa n, pb n, pc n, pf n]
noncomputable def dueI (n : Int) : List Int := marksOf (pa n) (pb n) (pc n) (pf n)
theorem pf_range (n : Int) : 0 ≤ pf n ∧ pf n < 4 := ⟨Int.fmod_nonneg_of_pos _ (by decide), Int.fmod_lt_of_pos _ (by decide)⟩
theorem pa_range (n : Int) : 1 ≤ pa n ∧ pa n ≤ 5 := by
  have h1 := Int.fmod_nonneg_of_pos n (b := 5) (by decide)
  have h2 := Int.fmod_lt_of_pos n (b := 5) (by decide)
  unfold pa; omega
theorem pb_range (n : Int) : 1 ≤ pb n ∧ pb n ≤ 5 := by
  have h1 := Int.fmod_nonneg_of_pos (Int.fdiv n 5) (b := 5) (by decide)
  have h2 := Int.fmod_lt_of_pos (Int.fdiv n 5) (b := 5) (by decide)
  unfold pb; omega
theorem pc_range (n : Int) : 1 ≤ pc n ∧ pc n ≤ 5 := by
  have h1 := Int.fmod_nonneg_of_pos (Int.fdiv n 100) (b := 5) (by decide)
  have h2 := Int.fmod_lt_of_pos (Int.fdiv n 100) (b := 5) (by decide)
  unfold pc; omega
theorem walk_due (n : Int) : sums (-1) (pulls (rowOf (pa n) (pb n) (pc n) (pf n)) 4 .start) = dueI n := walk_marks _ _ _ _ (pa_range n) (pb_range n) (pc_range n) (pf_range n)
theorem row_head (n : Int) : (rowOf (pa n) (pb n) (pc n) (pf n))[0]? ≠ some 0 := by
  have h1 := pa_range n
  have h3 := pc_range n
  unfold rowOf
  split
  · intro e; have := Option.some.inj e; omega
  · split
    · intro e; have := Option.some.inj e; omega
    · split
      · intro e; have := Option.some.inj e; omega
      · intro e; have := Option.some.inj e; omega
noncomputable def pw : List Int → Int
  | [] => 0
  | x :: xs => 2 ^ x.toNat + pw xs
theorem pw_snoc (xs : List Int) (x : Int) : pw (xs ++ [x]) = pw xs + 2 ^ x.toNat := by
  induction xs with
  | nil => simp [pw]
  | cons y ys ih => rw [List.cons_append, pw, pw, ih]; omega
theorem pw_take {xs : List Int} {i : Nat} (h : i < xs.length) : pw (xs.take (i + 1)) = pw (xs.take i) + 2 ^ (xs.getD i 0).toNat := by
  rw [List.take_succ_eq_append_getElem h, pw_snoc, List.getD_eq_getElem?_getD, List.getElem?_eq_getElem h]; rfl
theorem marks_facts (a b c f : Int) (ha : 1 ≤ a ∧ a ≤ 5) (hb : 1 ≤ b ∧ b ≤ 5) (hc : 1 ≤ c ∧ c ≤ 5) (hf : 0 ≤ f ∧ f < 4) : (marksOf a b c f).Pairwise (· < ·) ∧ (∀ x ∈ marksOf a b c f, 0 ≤ x ∧ x < 20) ∧ (marksOf a b c f).length ≤ 4 ∧ 3 ≤ (marksOf a b c f).length := by
  unfold marksOf
  split
  · simp; omega
  · split
    · simp; omega
    · split
      · simp; omega
      · simp; omega
theorem due_facts (n : Int) : (dueI n).Pairwise (· < ·) ∧ (∀ x ∈ dueI n, 0 ≤ x ∧ x < 20) ∧ (dueI n).length ≤ 4 ∧ 3 ≤ (dueI n).length := marks_facts _ _ _ _ (pa_range n) (pb_range n) (pc_range n) (pf_range n)
theorem due_len (n : Int) : (dueI n).length ≤ 4 := (due_facts n).2.2.1
theorem due_mem (n : Int) : ∀ x ∈ dueI n, 0 ≤ x ∧ x < 20 := (due_facts n).2.1
end Mine
end
section
open PySem PySem.W PySem.Calls PyProof.Rows
set_option Elab.async false
set_option maxRecDepth 100000
set_option linter.unusedVariables false
namespace Mine
noncomputable def pfil (xs ys : List Int) : List Int := xs.filter fun m => !ys.any (· == m)
theorem pfil_nil {xs : List Int} : pfil xs [] = xs := by
  unfold pfil
  exact List.filter_eq_self.mpr fun _ _ => rfl
theorem pfil_left {x : Int} {xs ys : List Int} (h : ∀ y ∈ ys, y ≠ x) : pfil (x :: xs) ys = x :: pfil xs ys := by
  unfold pfil
  rw [List.filter_cons_of_pos]
  rw [Bool.not_eq_true', List.any_eq_false]
  intro y hy e
  exact h y hy (beq_iff_eq.mp e)
theorem pfil_same {x : Int} {xs ys : List Int} : pfil (x :: xs) (x :: ys) = pfil xs (x :: ys) := by
  unfold pfil
  rw [List.filter_cons_of_neg]
  simp
theorem pfil_right {y : Int} {xs ys : List Int} (h : ∀ x ∈ xs, x ≠ y) : pfil xs (y :: ys) = pfil xs ys := by
  unfold pfil
  refine List.filter_congr fun m hm => ?_
  have : (y == m) = false := by
    rw [beq_eq_false_iff_ne]; exact fun e => h m hm e.symm
  rw [List.any_cons, this, Bool.false_or]
theorem sdiff_pfil : ∀ {xs ys : List Int}, xs.Pairwise (· < ·) → ys.Pairwise (· < ·) → sdiff xs ys = (pfil xs ys, pfil ys xs) := by
  intro xs ys
  fun_induction sdiff xs ys with
  | case1 ys => intro _ _; rw [pfil_nil]; rfl
  | case2 x xs => intro _ _; rw [pfil_nil]; rfl
  | case3 x xs y ys h ih =>
    intro hx hy
    rw [ih (List.pairwise_cons.mp hx).2 hy]
    have h1 : ∀ z ∈ y :: ys, z ≠ x := fun z hz => by
      rcases List.mem_cons.mp hz with rfl | hz
      · omega
      · have := (List.pairwise_cons.mp hy).1 z hz; omega
    rw [pfil_left h1, pfil_right h1]
  | case4 x xs y ys h1 h2 ih =>
    intro hx hy
    rw [ih hx (List.pairwise_cons.mp hy).2]
    have h1 : ∀ z ∈ x :: xs, z ≠ y := fun z hz => by
      rcases List.mem_cons.mp hz with rfl | hz
      · omega
      · have := (List.pairwise_cons.mp hx).1 z hz; omega
    rw [pfil_left h1, pfil_right h1]
  | case5 x xs y ys h1 h2 ih =>
    intro hx hy
    have e : x = y := by omega
    subst e
    rw [ih (List.pairwise_cons.mp hx).2 (List.pairwise_cons.mp hy).2, pfil_same, pfil_same, pfil_right, pfil_right]
    · intro z hz; have := (List.pairwise_cons.mp hy).1 z hz; omega
    · intro z hz; have := (List.pairwise_cons.mp hx).1 z hz; omega
theorem pw_sdiff : ∀ (xs ys : List Int), pw xs - pw ys = pw (sdiff xs ys).1 - pw (sdiff xs ys).2 := by
  intro xs ys
  fun_induction sdiff xs ys with
  | case1 ys => rfl
  | case2 x xs => rfl
  | case3 x xs y ys h ih => simp only [pw] at ih ⊢; omega
  | case4 x xs y ys h1 h2 ih => simp only [pw] at ih ⊢; omega
  | case5 x xs y ys h1 h2 ih =>
    have e : x = y := by omega
    subst e
    simp only [pw]; omega
theorem two_mono {a b : Nat} (h : a ≤ b) : (2 : Int) ^ a ≤ 2 ^ b := by
  have := Nat.pow_le_pow_right (n := 2) (by decide) h
  exact_mod_cast this
theorem pw_upper : ∀ (xs : List Int) (lo N : Nat), xs.Pairwise (· < ·) → lo ≤ N → (∀ x ∈ xs, (lo : Int) ≤ x ∧ x < N) → pw xs ≤ 2 ^ N - 2 ^ lo
  | [], lo, N, _, h, _ => by
    have := two_mono h
    simp only [pw]; omega
  | x :: xs, lo, N, hs, h, hm => by
    have hx := hm x (.head _)
    have hp := List.pairwise_cons.mp hs
    have ih := pw_upper xs (x.toNat + 1) N hp.2 (by omega) fun y hy => ⟨by have := hp.1 y hy; omega, (hm y (.tail _ hy)).2⟩
    have h1 : (2 : Int) ^ (x.toNat + 1) = 2 * 2 ^ x.toNat := by rw [Int.pow_succ]; omega
    have h2 := two_mono (a := lo) (b := x.toNat) (by omega)
    simp only [pw]; omega
theorem pw_lower : ∀ (xs : List Int) (x : Int), x ∈ xs → (2 : Int) ^ x.toNat ≤ pw xs
  | y :: xs, x, h => by
    have nn : ∀ l : List Int, 0 ≤ pw l := by
      intro l
      induction l with
      | nil => exact Int.le_refl _
      | cons a l ih => have : (0 : Int) ≤ 2 ^ a.toNat := Int.pow_nonneg (by decide); simp only [pw]; omega
    have h0 : (0 : Int) ≤ 2 ^ y.toNat := Int.pow_nonneg (by decide)
    rcases List.mem_cons.mp h with rfl | h
    · have := nn xs; simp only [pw]; omega
    · have := pw_lower xs x h; simp only [pw]; omega
theorem pw_less {A B : List Int} {b : Int} (hA : A.Pairwise (· < ·)) (h0 : ∀ x ∈ A, 0 ≤ x ∧ x < b) (hb : b ∈ B) (hb0 : 0 ≤ b) : pw A < pw B := by
  have h1 := pw_upper A 0 b.toNat hA (Nat.zero_le _) fun x hx => ⟨by have := h0 x hx; omega, by have := h0 x hx; omega⟩
  have h2 := pw_lower B b hb
  have : (2 : Int) ^ 0 = 1 := rfl
  omega
theorem last_max {xs : List Int} (hs : xs.Pairwise (· < ·)) (h : xs ≠ []) : ∀ x ∈ xs, x ≤ xs.getLast h := by
  intro x hx
  obtain ⟨i, hi, rfl⟩ := List.getElem_of_mem hx
  rw [List.getLast_eq_getElem]
  by_cases e : i = xs.length - 1
  · subst e; exact Int.le_refl _
  · exact Int.le_of_lt (List.pairwise_iff_getElem.mp hs i _ hi (by omega) (by omega))
theorem drop_last {xs : List Int} (h : xs ≠ []) : xs.drop (xs.length - 1) = [xs.getLast h] := by
  have hl : 0 < xs.length := List.length_pos_iff.mpr h
  rw [List.drop_eq_getElem_cons (by omega), List.getLast_eq_getElem, show xs.length - 1 + 1 = xs.length by omega, List.drop_length]
theorem cmp_sign {xs ys : List Int} (hx : xs.Pairwise (· < ·)) (hy : ys.Pairwise (· < ·)) (h1 : ∀ x ∈ xs, 0 ≤ x ∧ x < 20) (h2 : ∀ x ∈ ys, 0 ≤ x ∧ x < 20) :
    cmpL ((pfil xs ys).drop ((pfil xs ys).length - 1)) ((pfil ys xs).drop ((pfil ys xs).length - 1)) = sgn (pw xs - pw ys) := by
  rw [pw_sdiff xs ys, sdiff_pfil hx hy]
  dsimp only
  have sA : (pfil xs ys).Pairwise (· < ·) := hx.filter _
  have sB : (pfil ys xs).Pairwise (· < ·) := hy.filter _
  have mA : ∀ x ∈ pfil xs ys, (0 ≤ x ∧ x < 20) ∧ x ∉ ys := fun x hx => by
    have := List.mem_filter.mp hx
    refine ⟨h1 x this.1, fun hm => ?_⟩
    have h3 := this.2
    rw [Bool.not_eq_true', List.any_eq_false] at h3
    exact h3 x hm (by simp)
  have mB : ∀ x ∈ pfil ys xs, (0 ≤ x ∧ x < 20) ∧ x ∈ ys := fun x hx => by
    have := List.mem_filter.mp hx
    exact ⟨h2 x this.1, this.1⟩
  generalize pfil xs ys = A at *
  generalize pfil ys xs = B at *
  by_cases eA : A = []
  · by_cases eB : B = []
    · subst eA; subst eB; rfl
    · subst eA
      rw [drop_last eB]
      have hm := List.getLast_mem eB
      have := pw_less (A := []) (B := B) (b := B.getLast eB) List.Pairwise.nil (fun _ h => nomatch h) hm (mB _ hm).1.1
      show (-1 : Int) = sgn _
      unfold sgn
      rw [if_pos (by omega)]
  · by_cases eB : B = []
    · subst eB
      rw [drop_last eA]
      have hm := List.getLast_mem eA
      have := pw_less (A := []) (B := A) (b := A.getLast eA) List.Pairwise.nil (fun _ h => nomatch h) hm (mA _ hm).1.1
      show (1 : Int) = sgn _
      unfold sgn
      rw [if_neg (by omega), if_neg (by omega)]
    · rw [drop_last eA, drop_last eB]
      have ha := List.getLast_mem eA
      have hb := List.getLast_mem eB
      have xa := last_max sA eA
      have xb := last_max sB eB
      have hne : A.getLast eA ≠ B.getLast eB := fun e => (mA _ ha).2 (e ▸ (mB _ hb).2)
      generalize A.getLast eA = a at *
      generalize B.getLast eB = b at *
      show (if a < b then (-1 : Int) else if b < a then 1 else 0) = sgn _
      by_cases q : a < b
      · have := pw_less sA (fun x hx => ⟨(mA x hx).1.1, by have := xa x hx; omega⟩) hb (mB _ hb).1.1
        rw [if_pos q]; unfold sgn
        rw [if_pos (by omega)]
      · have q2 : b < a := by omega
        have := pw_less sB (fun x hx => ⟨(mB x hx).1.1, by have := xb x hx; omega⟩) ha (mA _ ha).1.1
        rw [if_neg q, if_pos q2]; unfold sgn
        rw [if_neg (by omega), if_neg (by omega)]
end Mine
end
section
open PySem PySem.W PySem.Calls PyProof.Rows
set_option Elab.async false
set_option maxRecDepth 100000
set_option linter.unusedVariables false
namespace Mine
noncomputable def wy (n k : Nat) : Int := (wrow n).getD k 0
theorem wy_facts (n : Nat) : wy n 0 = 1 ∧ (∀ k, 0 ≤ wy n k) ∧ ∀ k, k < 4 → wy (n + 1) (k + 1) = wy n k + wy n (k + 1) := by
  have hl := wrow_len n
  have nn : ∀ n, ∀ x ∈ wrow n, 0 ≤ x := by
    intro n
    induction n with
    | zero => intro x hx; simp [wrow] at hx; omega
    | succ n ih =>
      intro x hx
      have hl := wrow_len n
      unfold wrow at hx
      match e : wrow n, hl with
      | [a, b, c, d, f], _ =>
        rw [e] at hx ih
        simp at hx ih
        omega
  have h0 : ∀ n, wy n 0 = 1 := by
    intro n
    cases n with
    | zero => rfl
    | succ n =>
      have hl := wrow_len n
      unfold wy wrow
      match e : wrow n, hl with
      | [a, b, c, d, f], _ => rfl
  refine ⟨h0 n, fun k => ?_, fun k hk => ?_⟩
  · unfold wy
    rw [List.getD_eq_getElem?_getD]
    cases q : (wrow n)[k]? with
    | none => exact Int.le_refl _
    | some x => exact nn n x (List.mem_of_getElem? q)
  · have e2 := h0 n
    unfold wy at e2 ⊢
    rw [wrow]
    match e : wrow n, hl with
    | [a, b, c, d, f], _ =>
      rw [e] at e2
      match k, hk with
      | 0, _ => exact congrArg (· + b) (by simpa using e2.symm) |> fun _ => by simp
      | 1, _ => simp
      | 2, _ => simp
      | 3, _ => simp
theorem wy_mono {n m k : Nat} (h : n ≤ m) (hk : k < 5) : wy n k ≤ wy m k := by
  induction h with
  | refl => exact Int.le_refl _
  | step h ih =>
    rename_i m
    refine Int.le_trans ih ?_
    cases k with
    | zero => rw [(wy_facts m).1, (wy_facts (m + 1)).1]; exact Int.le_refl _
    | succ k =>
      rw [(wy_facts m).2.2 k (by omega)]
      have := (wy_facts m).2.1 k
      omega
theorem psum_succ (xs : List Int) (i : Nat) : psum xs (i + 1) = psum xs i + wy (xs.getD i 0).toNat (i + 1) := rfl
theorem psum_nn (xs : List Int) : ∀ i, 0 ≤ psum xs i
  | 0 => Int.le_refl _
  | i + 1 => by
    rw [psum_succ]
    have h1 := psum_nn xs i
    have h2 := (wy_facts (xs.getD i 0).toNat).2.1 (i + 1)
    omega
theorem psum_nonneg (xs : List Int) : 0 ≤ psum xs xs.length := psum_nn xs _
theorem get_lt {xs : List Int} (hx : xs.Pairwise (· < ·)) {i j : Nat} (h : i < j) (hj : j < xs.length) : xs.getD i 0 < xs.getD j 0 := by
  rw [List.getD_eq_getElem?_getD, List.getD_eq_getElem?_getD, List.getElem?_eq_getElem (by omega), List.getElem?_eq_getElem hj]
  exact List.pairwise_iff_getElem.mp hx i j (by omega) hj h
theorem get_range {xs : List Int} (h1 : ∀ x ∈ xs, 0 ≤ x ∧ x < 20) {i : Nat} (h : i < xs.length) : 0 ≤ xs.getD i 0 ∧ xs.getD i 0 < 20 := by
  rw [List.getD_eq_getElem?_getD, List.getElem?_eq_getElem h]
  exact h1 _ (List.getElem_mem h)
theorem psum_lt {xs : List Int} (hx : xs.Pairwise (· < ·)) (h1 : ∀ x ∈ xs, 0 ≤ x ∧ x < 20) : ∀ k, k < xs.length → k < 4 → psum xs (k + 1) < wy ((xs.getD k 0).toNat + 1) (k + 1)
  | 0, hk, _ => by
    rw [psum_succ, (wy_facts _).2.2 0 (by omega), (wy_facts _).1]
    show 0 + _ < _
    omega
  | k + 1, hk, h4 => by
    have ih := psum_lt hx h1 k (by omega) (by omega)
    rw [psum_succ, (wy_facts _).2.2 (k + 1) h4]
    have h2 := get_lt hx (show k < k + 1 by omega) hk
    have h3 := get_range h1 (show k < xs.length by omega)
    have h5 := wy_mono (n := (xs.getD k 0).toNat + 1) (m := (xs.getD (k + 1) 0).toNat) (k := k + 1) (by omega) (by omega)
    omega
theorem back_at {xs : List Int} (hx : xs.Pairwise (· < ·)) (h1 : ∀ x ∈ xs, 0 ≤ x ∧ x < 20) (h4 : xs.length ≤ 4) : ∀ (i : Nat) (ms : List Int) (r : Int), i ≤ xs.length → BackRel xs.length (psum xs xs.length) i ms r → ms.reverse = xs.drop (xs.length - i) ∧ r = psum xs (xs.length - i)
  | 0, ms, r, _, h => by
    obtain ⟨rfl, rfl⟩ := h
    exact ⟨by rw [Nat.sub_zero, List.drop_length]; rfl, by rw [Nat.sub_zero]⟩
  | i + 1, ms, r, hi, h => by
    obtain ⟨ms', r', M, hb, hM, hmax, rfl, rfl⟩ := h
    obtain ⟨e1, rfl⟩ := back_at hx h1 h4 i ms' r' (by omega) hb
    obtain ⟨k, hk⟩ : ∃ k, xs.length - i = k + 1 := ⟨xs.length - i - 1, by omega⟩
    have hk2 : xs.length - (i + 1) = k := by omega
    rw [hk] at hM hmax e1 ⊢
    rw [hk2]
    have hkl : k < xs.length := by omega
    have hg := get_range h1 hkl
    obtain ⟨hM0, hM20, hMr⟩ := cands_mem hM
    have hMr : wy M.toNat (k + 1) ≤ psum xs (k + 1) := hMr
    have hlt := psum_lt hx h1 k hkl (by omega)
    have hle : wy (xs.getD k 0).toNat (k + 1) ≤ psum xs (k + 1) := by
      rw [psum_succ]
      have := psum_nn xs k
      omega
    have hin : xs.getD k 0 ∈ cands (k + 1) (psum xs (k + 1)) := by
      refine List.mem_filter.mpr ⟨List.mem_map.mpr ⟨(xs.getD k 0).toNat, List.mem_range.mpr (by omega), by omega⟩, decide_eq_true hle⟩
    have hge := hmax _ hin
    have hMe : M = xs.getD k 0 := by
      by_cases q : xs.getD k 0 < M
      · have := wy_mono (n := (xs.getD k 0).toNat + 1) (m := M.toNat) (k := k + 1) (by omega) (by omega)
        omega
      · omega
    subst hMe
    refine ⟨?_, ?_⟩
    · rw [List.reverse_append, e1, List.drop_eq_getElem_cons hkl]
      show _ :: _ = _
      rw [List.getD_eq_getElem?_getD, List.getElem?_eq_getElem hkl]
      rfl
    · rw [psum_succ]
      show _ + _ - wy _ _ = _
      omega
theorem back_due {xs ms : List Int} {r : Int} (hx : xs.Pairwise (· < ·)) (h1 : ∀ x ∈ xs, 0 ≤ x ∧ x < 20) (h4 : xs.length ≤ 4) (h : BackRel xs.length (psum xs xs.length) xs.length ms r) : ms.reverse = xs := by
  have := (back_at hx h1 h4 _ _ _ (Nat.le_refl _) h).1
  rw [Nat.sub_self, List.drop_zero] at this
  exact this
end Mine
end
section
open PySem PySem.W PySem.Calls PyProof.Rows
set_option Elab.async false
set_option maxRecDepth 100000
set_option maxHeartbeats 4000000
set_option linter.unusedVariables false
set_option linter.unusedSimpArgs false
namespace Mine
noncomputable def Tn (fs : List Addr) (h h' : Heap) : Prop := ∀ b o, h.get? b = some o → (b ∉ fs → h'.get? b = some o) ∧ (b ∈ fs → ∃ sl, h'.get? b = some { o with slots := sl })
theorem Tn.of {fs : List Addr} {h g h' : Heap} (T : KtsTurn fs h g) (st : g.StaysIn h') : Tn fs h h' := fun b o e => ⟨fun hb => st _ _ (T.other b o e hb), fun hb => by
  obtain ⟨sl, q⟩ := T.frame b o e hb
  exact ⟨sl, st _ _ q⟩⟩
theorem Tn.fr {g h h' : Heap} {L : Addr} {m : Str → Option Value} (T : Tn [L] h h') (F : Fr g L h m) : Fr g L h' m := by
  have hg : g.get? L = none := Heap.get?_none_of_le F.above
  refine ⟨?_, fun b o e => (T b o (F.keep b o e)).1 (fun hm => by rw [List.mem_singleton.mp hm, hg] at e; cases e), F.above⟩
  obtain ⟨o, es, ep, ho, hd, r⟩ := F.ns
  obtain ⟨sl, q⟩ := (T L o ho).2 (.head _)
  exact ⟨_, es, ep, q, hd, r⟩
theorem Tn.news {g h h' : Heap} {L : Addr} {l : List (Addr × Obj)} (T : Tn [L] h h') (N : News g L h l) : News g L h' l := fun p hp => ⟨(T _ _ (N p hp).1).1 (fun hm => (N p hp).2.1 (List.mem_singleton.mp hm)), (N p hp).2⟩
section
variable {prog : Program} {w : World} {A : Around} {E : Value → Shared → Prop} {s : Shared} {h₀ : Heap} {L : Addr} {a b : Value} {news n₁ n₂ : List (Addr × Obj)} {d e : PySem.W.Dat} {Q : Value → Shared → Prop}
theorem dat_shaped (hd : PySem.W.kqdOk 9 d = true) : SeqAt.shaped (PySem.W.kqdP d) = true := by
  have l := PySem.W.kqd_lay 9 d hd
  unfold SeqAt.shaped
  rw [l.1, Bool.true_and]
  exact decide_eq_true (Nat.le_trans l.2 (by decide))
theorem dat_ne (N : News h₀ L s.heap news) (Da : PySem.W.DatIn n₁ a d) (sa : ∀ p ∈ n₁, p ∈ news) (Db : PySem.W.DatIn n₂ b d) (sb : ∀ p ∈ n₂, p ∈ news) (hd : PySem.W.kqdOk 9 d = true) (hu : A.units + 64 < cLine) (h : Q (.bool false) s) : wpAny (model prog w) A (compareOp .NotEq a b) Q E s := by
  obtain ⟨as, ra⟩ := PySem.W.kqd_in N 9 (Da.mono sa) hd
  obtain ⟨bs, rb⟩ := PySem.W.kqd_in N 9 (Db.mono sb) hd
  refine ne_dataH ra rb (dat_shaped hd) (dat_shaped hd) hu ?_
  rw [(PySem.W.kqd_eqv 9 d d 9 hd hd).mpr rfl]
  exact h
theorem dat_eq (N : News h₀ L s.heap news) (Da : PySem.W.DatIn n₁ a d) (sa : ∀ p ∈ n₁, p ∈ news) (Db : PySem.W.DatIn n₂ b d) (sb : ∀ p ∈ n₂, p ∈ news) (hd : PySem.W.kqdOk 9 d = true) (hu : A.units + 64 < cLine) (h : Q (.bool true) s) : wpAny (model prog w) A (compareOp .Eq a b) Q E s := by
  obtain ⟨as, ra⟩ := PySem.W.kqd_in N 9 (Da.mono sa) hd
  obtain ⟨bs, rb⟩ := PySem.W.kqd_in N 9 (Db.mono sb) hd
  refine eq_dataH ra rb (dat_shaped hd) (dat_shaped hd) hu ?_
  rw [(PySem.W.kqd_eqv 9 d d 9 hd hd).mpr rfl]
  exact h
end
theorem Fr.withN2 {h₀ h : Heap} {L : Addr} {m : Str → Option Value} {x y : Str} {u v : Value} (F : Fr h₀ L h m) (e1 : m x = some u) (e2 : m y = some v) : Fr h₀ L h (fun n => if n = x then some u else if n = y then some v else m n) := by
  have := Fr.withN F e2
  refine Fr.withN this ?_
  by_cases q : x = y
  · subst q; rw [if_pos rfl]; rw [e1] at e2; exact e2.symm
  · rw [if_neg q]; exact e1
theorem LR.take {rows : List (Addr × Obj)} {ps : List Int} {f : Int → List Int} {i : Nat} {n : Int} {D : Addr} {vs : List Value} {k : Nat} (h : LR rows ((ps.take i).map f)) (hn : ps[i]? = some n) (hi : IntsAre vs (f n)) : LR (rows ++ [(D, W.listOf vs.toArray k)]) ((ps.take (i + 1)).map f) := by
  rw [List.take_succ, hn, Option.toList_some, List.map_append]
  exact h.snoc hi
theorem mem4 {α : Type} {a b c d : List α} {p : α} (h : p ∈ a ++ (b ++ (c ++ d))) : p ∈ b ++ (c ++ (a ++ d)) := by
  simp only [List.mem_append] at h ⊢
  rcases h with h | h | h | h
  · exact .inr (.inr (.inl h))
  · exact .inl h
  · exact .inr (.inl h)
  · exact .inr (.inr (.inr h))
theorem mem4' {α : Type} {a b c d : List α} {p : α} (h : p ∈ b ++ (c ++ (a ++ d))) : p ∈ a ++ (b ++ (c ++ d)) := by
  simp only [List.mem_append] at h ⊢
  rcases h with h | h | h | h
  · exact .inr (.inl h)
  · exact .inr (.inr (.inl h))
  · exact .inl h
  · exact .inr (.inr (.inr h))
theorem LR.at {rows : List (Addr × Obj)} {ps : List Int} {f : Int → List Int} (h : LR rows (ps.map f)) {i : Nat} {n : Int} (hi : ps[i]? = some n) : ∃ r k vs, (refs rows)[i]? = some (.ref r) ∧ (r, W.listOf (List.toArray vs) k) ∈ rows ∧ IntsAre vs (f n) := by
  have hl := h.1
  rw [List.length_map] at hl
  have hil : i < rows.length := by
    by_cases z : i < rows.length
    · exact z
    · rw [List.getElem?_eq_none (by omega)] at hi; cases hi
  have e : (refs rows)[i]? = some (Value.ref rows[i].1) := by rw [List.getElem?_map, List.getElem?_eq_getElem hil]; rfl
  obtain ⟨r, k, vs, n', e1, e2, e3, e4⟩ := h.row e
  rw [hi] at e3
  cases e3
  exact ⟨r, k, vs, e.trans (congrArg some e1), e2, e4⟩
theorem kts_fresh {fs : List Addr} {g h g₁ : Heap} {L t : Addr} {m : Str → Option Value} (T : KtsTurn fs h g₁) (F : Fr g L h m) (hf : g₁.get? t = none) : t ≠ L ∧ g.get? t = none := by
  refine ⟨fun q => ?_, ?_⟩
  · obtain ⟨o, es, ep, ho, _⟩ := F.ns
    obtain ⟨sl, e⟩ := T.up ho
    rw [← q, hf] at e; cases e
  · cases q : g.get? t with
    | none => rfl
    | some o =>
      obtain ⟨sl, e⟩ := T.up (F.keep _ _ q)
      rw [hf] at e; cases e
theorem pw_bound : ∀ (xs : List Int), (∀ x ∈ xs, 0 ≤ x ∧ x < 20) → 0 ≤ pw xs ∧ pw xs ≤ 524288 * xs.length
  | [], _ => by simp [pw]
  | x :: xs, h => by
    have h1 := pw_bound xs fun y hy => h y (.tail _ hy)
    have h2 := h x (.head _)
    have h3 : (2 : Int) ^ x.toNat ≤ 2 ^ 19 := by
      have : (2 : Nat) ^ x.toNat ≤ 2 ^ 19 := Nat.pow_le_pow_right (by decide) (by omega)
      exact_mod_cast this
    have h4 : (0 : Int) ≤ 2 ^ x.toNat := Int.pow_nonneg (by decide)
    rw [pw, List.length_cons]
    have : (2 : Int) ^ 19 = 524288 := by decide
    omega
theorem off_any {h : Heap} {P : Addr} {as : Array Value} (hP : h.get? P = some (tabObj as)) {l : List (Addr × Obj)} (hl : ∀ p ∈ l, h.get? p.1 = some p.2) (hf : ∀ p ∈ l, @Ne Nat p.1 P ∨ NC p) : ∀ p ∈ l, p.1 ≠ P := fun p hp => by
  rcases hf p hp with h | h
  · exact h
  · intro e
    have e1 := hl p hp
    rw [e, hP] at e1
    exact h.2 (by rw [← Option.some.inj e1])
theorem News.tabStep {g h h' : Heap} {L P : Addr} {o o' : Obj} {a b : List (Addr × Obj)} (N : News g L h (a ++ (P, o) :: b)) (ex : Ex [P] h h') (hP : h'.get? P = some o') (hoff : ∀ p ∈ a ++ b, p.1 ≠ P) : News g L h' (a ++ (P, o') :: b) := fun p hp => by
  rcases List.mem_append.mp hp with hq | hq
  · have z := N p (List.mem_append_left _ hq)
    exact ⟨ex _ _ (fun hm => hoff p (List.mem_append_left _ hq) (List.mem_singleton.mp hm)) z.1, z.2⟩
  · rcases List.mem_cons.mp hq with rfl | hq
    · exact ⟨hP, (N (P, o) (List.mem_append_right _ (.head _))).2⟩
    · have z := N p (List.mem_append_right _ (.tail _ hq))
      exact ⟨ex _ _ (fun hm => hoff p (List.mem_append_right _ hq) (List.mem_singleton.mp hm)) z.1, z.2⟩
section
variable {prog : Program} {w : World} {A : Around} {E : Value → Shared → Prop} {env : Env}
theorem compL2 {s : Shared} {elt target iter : PySem.Expr} {scope : Scope} {cl : List (Str × Addr)} {pos : Pos} {Q : Value → Shared → Prop} (g : Heap) (L : Addr)
    (hclos : closureFor scope env = pure cl) (hcell : ∀ y ∈ scope.names, y.2 ≠ .cell) (hkind : scope.kind = .function)
    (hnames : ∀ y ∈ scope.names, y.2 = .local → scope.names.lookup y.1 = some .local)
    (h : wpAny (model prog w) A (eval iter env) (fun xv s₁ => ∃ m V S, (∀ i ys gs nw, V i ys gs nw → S nw) ∧ wpAny (model prog w) A (pyIter xv) (fun it s₂ => CompG prog w A elt target env scope cl g L m V S it s₂ (fun _ D _ s' => Q (.ref D) s')) E s₁) E s)
    (hs : ∀ x, foldedSetIterable iter env x = pure x := by intro _; rfl) :
    wpAny (model prog w) A (eval (.ListComp elt [⟨target, iter, [], 0⟩] scope pos) env) Q E s := by
  rw [eval_ListComp]
  refine wpAny_comprehension_free (use := none) rfl hs hclos hkind hnames (wpAny_mono h (fun xv s₁ h₁ => ?_) fun _ _ e => e)
  obtain ⟨m, V, S, hVS, h₁⟩ := h₁
  exact wpAny_mono h₁ (fun it s₂ h₂ => h₂.block (RR := fun acc C => compPost (model prog w) A E none Q acc C) hcell hkind hVS (fun D C ys s' m' hQ hn _ _ _ hall => ⟨m', hn, fun h'' hs'' => hall h'' hs''⟩)) fun _ _ e => e
end
theorem LR.dats {news rows : List (Addr × Obj)} {ps : List Int} {f : Int → List Int} (h : LR rows (ps.map f)) (hs : ∀ p ∈ rows, p ∈ news) : ∀ (l : List Nat), (∀ i ∈ l, i < ps.length) → PySem.W.DatAll news (l.map fun i => (refs rows).getD i .none) ((l.map fun i => f (ps.getD i 0)).map datL)
  | [], _ => .nil
  | i :: l, hl => by
    have hi := hl i (.head _)
    obtain ⟨r, k, vs, e1, e2, e3⟩ := h.at (List.getElem?_eq_getElem hi)
    have e4 : (refs rows).getD i .none = .ref r := by rw [List.getD_eq_getElem?_getD, e1]; rfl
    have e5 : ps.getD i 0 = ps[i] := by rw [List.getD_eq_getElem?_getD, List.getElem?_eq_getElem hi]; rfl
    simp only [List.map_cons]
    rw [e4, e5]
    exact .cons (.list (hs _ e2) (ints_dat e3)) (LR.dats h hs l fun j hj => hl j (.tail _ hj))
end Mine
end
section
open PySem PySem.W PySem.Calls PyProof.Rows
set_option Elab.async false
set_option maxRecDepth 100000
set_option maxHeartbeats 4000000
set_option linter.unusedVariables false
set_option linter.unusedSimpArgs false
namespace Mine

theorem law_B {w : World} {A : Around} {base g : Heap} {outer : List Env} {p : Program} {loose : List Str} {mean : ExcName → Option Value} {mg mb : Str → Option Value} {L' : Addr} {h : Heap} {gs : Array GenState} {dr : Drawn} {tk : Nat} {os : OsState} {Q : Flow → Shared → Prop} {mx : Str → Option Value} {Ds Dd lw : Addr} {ks kd : Nat} {rs rowsS rowsD : List (Addr × Obj)} {ps : List Int} (BG : Below A base outer g) (XB : (KK w).In base) (TB : Top p loose mean mg mb base) (hd : A.depth < recursionLimit) (hu : A.units + 20 < cLine) (hdp : A.depth + 500 < recursionLimit) (hu2 : A.units + 500 < cLine) (hA : A.handled = none)
   (C1 : CodeHd base 109 105) (C3 : CodeHd base 34 30) (C4 : CodeHd base 119 117) (hb : ∀ P ∈ [105, 74, 30, 117], base.get? P = none) (hgP : ∀ P ∈ [105, 74, 30, 117], g.get? P = none) (lP' : ∀ P ∈ [105, 74, 30, 117], P < L')
   (F : Fr g L' h mx) (hsets : mx (Str.ofString "sets") = some (.ref Ds)) (hnc : ∀ p ∈ rs, NC p) (hDs : (Ds, W.listOf (refs rowsS).toArray ks) ∈ rs) (hrS : ∀ p ∈ rowsS, p ∈ rs) (hDd : (Dd, W.listOf (refs rowsD).toArray kd) ∈ rs) (hrD : ∀ p ∈ rowsD, p ∈ rs)
   (hlS : LR rowsS (ps.map dueI)) (hlD : LR rowsD (ps.map dueI)) (hps : ps.length = 5) (hwi : WaysIn rs lw) {c1 c2 c3 c4 c5 c6 : Obj} {v1 v2 v5 v6 : Option Value} (e1 : c1.data = .cell v1) (e2 : c2.data = .cell v2) (e3 : c3.data = .cell (some (.ref lw))) (e4 : c4.data = .cell (some (.ref Dd))) (e5 : c5.data = .cell v5) (e6 : c6.data = .cell v6) {a74 : Array Value}
   (N : News g L' h ([(L' + 1 + 1 + 1 + 1 + 1 + 1, c1), (L' + 1 + 1 + 1 + 1 + 1, c2), (L' + 1 + 1 + 1 + 1, c3), (L' + 1 + 1 + 1, c4), (L' + 1 + 1, c5), (L' + 1, c6), (105, tabObj #[]), (74, tabObj a74), (30, tabObj #[]), (117, tabObj #[])] ++ rs))
   (k : ∀ h' tk' c1' Dw nw vs a117 rs', Fr g L' h' mx → News g L' h' ([(L' + 1 + 1 + 1 + 1 + 1 + 1, c1'), (L' + 1 + 1 + 1 + 1 + 1, c2), (L' + 1 + 1 + 1 + 1, c3), (L' + 1 + 1 + 1, c4), (L' + 1 + 1, c5), (L' + 1, c6), (105, tabObj #[]), (74, tabObj a74), (30, tabObj #[]), (117, tabObj a117)] ++ rs') → c1'.data = .cell (some (.ref Dw)) → (∀ p ∈ rs, p ∈ rs') → (∀ p ∈ rs', NC p) → (Dw, W.listOf (List.toArray vs) nw) ∈ rs' → IntsAre vs (ps.map fun n => pw (dueI n)) → (a117 = #[] ∨ ∃ c', a117 = #[rawInt 137, rawInt 21, .ref c']) →
     wpAny (model PR w) (A.deeper (lawEnv w L')) (execs (lawR w 7) (lawEnv w L')) Q (fun _ _ => False) ⟨h', gs, dr, tk', os⟩) :
   wpAny (model PR w) (A.deeper (lawEnv w L')) (execs (lawR w 6) (lawEnv w L')) Q (fun _ _ => False) ⟨h, gs, dr, tk, os⟩ := by
  unfold lawEnv lawR KK PR at *
  revert XB; k_fill; intro XB
  have XG := XB.keeps BG.stays
  have TG := TB.keeps BG.stays
  k_dflt (refine' lawCut ?k6 ?_; (case k6 => k_is); k_whole)
  dsimp only [List.drop]
  have l0 : (105 : Nat) < L' ∧ (74 : Nat) < L' ∧ (30 : Nat) < L' ∧ (117 : Nat) < L' := ⟨lP' _ (by k_mem), lP' _ (by k_mem), lP' _ (by k_mem), lP' _ (by k_mem)⟩

  repeat ((fail_if_success (with_reducible show wpAny _ _ (exec (Stmt.Assign _ (Expr.ListComp _ _ _ _) _) _) _ _ _)); (first | (k_unfold; (try dsimp only)) | walk1 | (dsimp only; walk1)))
  refine wpAny_Assign_Name (hs := by with_unfolding_all rfl) ?_
  have N₇a := News.front (a := [_, _, _, _, _, _, _, _, _]) (x := (117, tabObj #[])) (b := rs) N
  clear N
  obtain ⟨fx3, hfx3, N₇⟩ := News.fix1 N₇a
  clear N₇a
  have hs3 : ∀ p ∈ rs, p ∈ fx3 := fun p hp => by rw [← hfx3]; exact List.mem_append_right _ hp
  have h117 : ∀ p ∈ fx3, p.1 ≠ 117 := off_of N₇ fun p hp => by
    rw [← hfx3] at hp
    simp only [List.cons_append, List.nil_append, List.mem_cons] at hp
    rcases hp with rfl | rfl | rfl | rfl | rfl | rfl | rfl | rfl | rfl | hp
    all_goals first | exact .inr (hnc _ hp) | (refine .inl ?_; dsimp only; omega)
  with_unfolding_all refine compL g L' mx (fun i ys gs' nw => gs' = gs ∧ ∃ tab cs, nw = (117, tab) :: (fx3 ++ (cs ++ [])) ∧ TabC 137 21 (Str.ofString "law.<locals>.<lambda>") g tab cs ∧ (∀ p ∈ fx3 ++ (cs ++ []), p.1 ≠ 117) ∧ IntsAre ys ((ps.take i).map fun n => pw (dueI n))) (fun nw => (Ds, W.listOf (refs rowsS).toArray ks) ∈ nw) rfl (by decide) rfl (by decide) (by rintro i ys gs nw ⟨_, tab, cs, rfl, _⟩; exact .tail _ (List.mem_append_left _ (hs3 _ hDs))) ?_
  repeat ((fail_if_success (with_reducible show wpAny _ _ (eval (Expr.Name _ _) _) _ _ _)); (first | (k_unfold; (try dsimp only)) | walk1 | (dsimp only; walk1)))
  k_dflt (refine' nameX_L ?nF hsets ?_; (case nF => k_asm); k_whole)
  repeat ((fail_if_success (with_reducible show wpAny _ _ (pyIter _) _ _ _)); (first | (k_unfold; (try dsimp only)) | walk1 | (dsimp only; walk1)))
  refine CompG.list (.tail _ (hs3 _ hDs)) (by rw [List.length_map, hlS.1, List.length_map, hps]; decide) (show (A.deeper _).handled = none from hA) rfl rfl F N₇ ⟨rfl, _, [], by rw [List.append_nil, List.append_nil], .inl rfl, by rw [List.append_nil, List.append_nil]; exact h117, .nil⟩ (fun _ h => h) ?_ ?_
  · rintro i v ys gs' nw I oI C oC D oD h tk m₂ E' hi ⟨rfl, tab, cs, rfl, htc, hof, hys⟩ hC F₂ N₂ off hne
    clear F N₇
    obtain ⟨r, kr, vr, n, rfl, hr, hn, ir⟩ := hlS.row hi
    have hk : nm1 (Str.ofString "marks") (.ref r) m₂ (Str.ofString "marks") = some (.ref r) := if_pos rfl
    repeat ((fail_if_success (with_reducible show wpAny _ _ (eval (Expr.Lambda _ _ _ _) _) _ _ _)); (first | (k_unfold; (try dsimp only)) | walk1 | (dsimp only; walk1)))
    rename Fr _ _ _ _ => F₃
    have hT3 : TabOk 117 137 21 (Str.ofString "law.<locals>.<lambda>") _ := htc.ok (N₂ _ (.tail _ (.tail _ (.tail _ (.head _))))).1 F₃.keep (fun p hp => N₂ p (.tail _ (.tail _ (.tail _ (.tail _ (List.mem_append_right _ (List.mem_append_left _ hp)))))))
    refine kla_eval rfl ?_
    obtain ⟨ps9, hP9, hK9⟩ := tab_hid hT3
    k_dflt (refine' lam_g F₃ TG (C4.keeps BG.stays) (hgP _ (by k_mem)) rfl rfl hP9 hK9 rfl ?_; k_whole)
    intro f c' ctv h4 tk4 tab4 cs4 ex4 x1 x2 x4
    have hf4 := (x2 _ (.head _)).1
    have fr4 := (x2 _ (.head _)).2
    obtain ⟨cr4, ts4⟩ := x4 h4 (hid_ex ex4) x1 (fun p hp => (x2 p (.tail _ hp)).1)
    clear x1 x2 x4 hP9 hK9
    have F₄ := Fr.exP F₃ ex4 (hgP _ (by k_mem)) (Nat.ne_of_gt l0.2.2.2)
    have oP := off _ (.head _)
    have N₄ : News g L' h4 ((I, oI) :: (C, oC) :: (D, oD) :: (fx3 ++ (cs ++ []))) := News.ex N₂ ex4 fun q hq => by
      rcases List.mem_cons.mp hq with rfl | hq
      · exact ⟨.head _, oP.1.symm⟩
      · rcases List.mem_cons.mp hq with rfl | hq
        · exact ⟨.tail _ (.head _), oP.2.1.symm⟩
        · rcases List.mem_cons.mp hq with rfl | hq
          · exact ⟨.tail _ (.tail _ (.head _)), oP.2.2.symm⟩
          · exact ⟨.tail _ (.tail _ (.tail _ (.tail _ hq))), hof q hq⟩
    repeat ((fail_if_success (with_reducible show wpAny _ _ (call (Value.ref 44) _) _ _ _)); (first | (k_unfold; (try dsimp only)) | walk1 | (dsimp only; walk1)))
    have hrl := (N₄ _ (.tail _ (.tail _ (.tail _ (List.mem_append_left _ (hs3 _ (hrS _ hr))))))).1
    have hdl : (dueI n).length ≤ 4 := due_len n
    refine reduce_list (V := fun i v news => news = [] ∧ ∃ t, v = .int (pw ((dueI n).take i)) t) (pushX BG F₄ rfl rfl) XB TB ?d1 ?d2 ?d3 hf4 rfl hA ?dn ⟨_, hrl, rfl, _, rfl⟩ ⟨rfl, _, rfl⟩ ?his ?HF ?kk
    case dn => rw [IntsAre.length ir]; omega
    case d1 => show A.depth + 1 < _; omega
    case d2 => show A.units + 3 + 20 < _; omega
    case d3 => show A.units + 3 + 60 < _; omega
    case his => intro M A' E' s' Q' _ hq; exact wpAny_is_other rfl (by intro h; cases h) hq
    case HF =>
      rintro j v x news h5 tk5 A' hd' hu' hA' ⟨rfl, tv, rfl⟩ _ st hx Q' E' kq
      have hjl : j < (dueI n).length := by
        by_cases z : j < (dueI n).length
        · exact z
        · rw [List.getElem?_eq_none (by rw [IntsAre.length ir]; omega)] at hx; cases hx
      obtain ⟨tx, xa⟩ := ir.get j ((dueI n).getD j 0) (getD_get hjl)
      rw [xa] at hx
      cases hx
      obtain ⟨hx0, hx20⟩ := due_mem n ((dueI n).getD j 0) (by rw [List.getD_eq_getElem?_getD, List.getElem?_eq_getElem hjl]; exact List.getElem_mem hjl)
      refine wpAny_call ?_
      have sg : g.StaysIn h5 := fun b o e => st b o (F₄.keep b o e)
      k_dflt (refine' enterL (TG.nolimit.keeps sg) (st _ _ hf4) (cr4.keeps st) ?q1 ?q2 ?q3 ?_ ?q4 ?q5 ?q6 ?q7; (case q1 => (rw [hd']; show A.depth + 1 + 1 < _; omega)); (case q2 => exact rfl); (case q3 => exact locs rfl); (case q4 => exact rfl); (case q5 => exact rfl); (case q6 => exact rfl); (case q7 => decide); k_whole; intro L2 h2 F2; (try dsimp only))
      repeat ((fail_if_success (with_reducible show Q' _ _)); (first | (k_unfold; (try dsimp only)) | walk1 | (dsimp only; walk1)))
      exact kq _ [] h2 _ ⟨rfl, _, by rw [pw_take hjl]⟩ F2.keep (fun _ hq => nomatch hq)
    case kk =>
      rintro v news h' tk' ⟨rfl, tv, rfl⟩ st _
      repeat ((fail_if_success (with_reducible show qk _ _)); (first | (k_unfold; (try dsimp only)) | walk1 | (dsimp only; walk1)))
      rw [IntsAre.length ir, List.take_length]
      refine TurnEnd.snocTs (fx := fx3) (cs := cs) (rows := []) (os := []) N₂ F₃ hC off hof (Ex.stays ex4 st) (TabStep.stays ts4 (N₂ _ (.tail _ (.tail _ (.tail _ (.head _))))).1 st) htc (fun _ h => nomatch h) fun tab' cs' tc' off' => ⟨rfl, tab', cs', rfl, tc', off', ?_⟩
      rw [List.take_add_one, hn, Option.toList_some, List.map_append]
      exact hys.append (.cons _ _ .nil)
  · rintro ys gs' nw Dw Cw kw h tk ⟨rfl, tab, cs, rfl, htc, hof, hys⟩ hlen F₂ N₂ off
    have hlS' := hlS.1
    rw [List.length_map] at hlS'
    rw [List.length_map, hlS', List.take_length] at hys
    obtain ⟨a117, rfl, ht117⟩ : ∃ a, tab = tabObj a ∧ (a = #[] ∨ ∃ c', a = #[rawInt 137, rawInt 21, .ref c']) := by
      rcases htc with rfl | ⟨c', oc, vs, t, rfl, _⟩
      · exact ⟨_, rfl, .inl rfl⟩
      · exact ⟨_, rfl, .inr ⟨_, rfl⟩⟩
    obtain ⟨rs', N₃, hnc', hrs', _, hDw⟩ := News.absorb2 (a := [_, _, _, _, _, _, _, _, _]) (b := []) (rs := rs) N₂ hfx3 hnc (fun _ h => nomatch h) ⟨fun v e => (nomatch e), fun e => (nomatch e)⟩
    clear N₂ N₇ F off hof htc
    (try simp only [List.cons_append, List.nil_append] at N₃)
    k_dflt (refine' stCellR (hd := [_, _, _, _, _, _, _, _, _, _]) ?cF2 ?cN2 ?cc2 ?cU2 ?cd2 ?cr2 ?_ ?ca2 ?cb2; (case ca2 => rfl); (case cb2 => rfl); (case cc2 => rfl); (case cF2 => k_asm); (case cN2 => exact N₃); (case cU2 => k_updF); (case cd2 => k_asm); (case cr2 => exact fun p hp => (hnc' p hp).1); k_whole); intro h' o' F' N' d'
    (try simp only [List.cons_append, List.nil_append] at N')
    dsimp only; k_dflt (refine' lawCutI (K := Mine.hd.heap_1 w.params) (f := 120) 7 ?k6 ?he ?_; (case k6 => k_is); (case he => rfl); k_whole)
    exact k _ _ _ _ _ _ _ rs' F' N' d' hrs' hnc' hDw hys ht117
end Mine
end
section
open PySem PySem.W PySem.Calls PyProof.Rows
set_option Elab.async false
set_option maxRecDepth 100000
set_option maxHeartbeats 4000000
set_option linter.unusedVariables false
set_option linter.unusedSimpArgs false
namespace Mine

theorem law_C {w : World} {A : Around} {base g : Heap} {outer : List Env} {p : Program} {loose : List Str} {mean : ExcName → Option Value} {mg mb : Str → Option Value} {L' : Addr} {h : Heap} {gs : Array GenState} {dr : Drawn} {tk : Nat} {os : OsState} {Q : Flow → Shared → Prop} {mx : Str → Option Value} {Ds Dd lw : Addr} {ks kd : Nat} {rs rowsS rowsD : List (Addr × Obj)} {ps : List Int} (BG : Below A base outer g) (XB : (KK w).In base) (TB : Top p loose mean mg mb base) (hd : A.depth < recursionLimit) (hu : A.units + 20 < cLine) (hdp : A.depth + 500 < recursionLimit) (hu2 : A.units + 500 < cLine) (hA : A.handled = none)
   (C1 : CodeHd base 109 105) (C3 : CodeHd base 34 30) (C4 : CodeHd base 119 117) (hb : ∀ P ∈ [105, 74, 30, 117], base.get? P = none) (hgP : ∀ P ∈ [105, 74, 30, 117], g.get? P = none) (lP' : ∀ P ∈ [105, 74, 30, 117], P < L')
   (F : Fr g L' h mx) (hsets : mx (Str.ofString "sets") = some (.ref Ds)) (hnc : ∀ p ∈ rs, NC p) (hDs : (Ds, W.listOf (refs rowsS).toArray ks) ∈ rs) (hrS : ∀ p ∈ rowsS, p ∈ rs) (hDd : (Dd, W.listOf (refs rowsD).toArray kd) ∈ rs) (hrD : ∀ p ∈ rowsD, p ∈ rs)
   (hlS : LR rowsS (ps.map dueI)) (hlD : LR rowsD (ps.map dueI)) (hps : ps.length = 5) (hwi : WaysIn rs lw) {c1 c2 c3 c4 c5 c6 : Obj} {v1 v2 v5 v6 : Option Value} (e1 : c1.data = .cell v1) (e2 : c2.data = .cell v2) (e3 : c3.data = .cell (some (.ref lw))) (e4 : c4.data = .cell (some (.ref Dd))) (e5 : c5.data = .cell v5) (e6 : c6.data = .cell v6) {a74 a117 : Array Value}
   (N : News g L' h ([(L' + 1 + 1 + 1 + 1 + 1 + 1, c1), (L' + 1 + 1 + 1 + 1 + 1, c2), (L' + 1 + 1 + 1 + 1, c3), (L' + 1 + 1 + 1, c4), (L' + 1 + 1, c5), (L' + 1, c6), (105, tabObj #[]), (74, tabObj a74), (30, tabObj #[]), (117, tabObj a117)] ++ rs))
   (k : ∀ h' tk' c2' Dq nq vs a105 rs', Fr g L' h' mx → News g L' h' ([(L' + 1 + 1 + 1 + 1 + 1 + 1, c1), (L' + 1 + 1 + 1 + 1 + 1, c2'), (L' + 1 + 1 + 1 + 1, c3), (L' + 1 + 1 + 1, c4), (L' + 1 + 1, c5), (L' + 1, c6), (105, tabObj a105), (74, tabObj a74), (30, tabObj #[]), (117, tabObj a117)] ++ rs') → c2'.data = .cell (some (.ref Dq)) → (∀ p ∈ rs, p ∈ rs') → (∀ p ∈ rs', NC p) → (Dq, W.listOf (List.toArray vs) nq) ∈ rs' → IntsAre vs (ps.map fun n => psum (dueI n) (dueI n).length) →
     wpAny (model PR w) (A.deeper (lawEnv w L')) (execs (lawR w 8) (lawEnv w L')) Q (fun _ _ => False) ⟨h', gs, dr, tk', os⟩) :
   wpAny (model PR w) (A.deeper (lawEnv w L')) (execs (lawR w 7) (lawEnv w L')) Q (fun _ _ => False) ⟨h, gs, dr, tk, os⟩ := by
  unfold lawEnv lawR KK PR at *
  revert XB; k_fill; intro XB
  have XG := XB.keeps BG.stays
  have TG := TB.keeps BG.stays
  k_dflt (refine' lawCut ?k6 ?_; (case k6 => k_is); k_whole)
  dsimp only [List.drop]
  have l0 : (105 : Nat) < L' ∧ (74 : Nat) < L' ∧ (30 : Nat) < L' ∧ (117 : Nat) < L' := ⟨lP' _ (by k_mem), lP' _ (by k_mem), lP' _ (by k_mem), lP' _ (by k_mem)⟩

  repeat ((fail_if_success (with_reducible show wpAny _ _ (exec (Stmt.Assign _ (Expr.ListComp _ _ _ _) _) _) _ _ _)); (first | (k_unfold; (try dsimp only)) | walk1 | (dsimp only; walk1)))
  refine wpAny_Assign_Name (hs := by with_unfolding_all rfl) ?_
  have N₇a := News.front (a := [_, _, _, _, _, _]) (x := (105, tabObj #[])) (b := [_, _, _] ++ rs) N
  clear N
  obtain ⟨fx3, hfx3, N₇⟩ := News.fix1 N₇a
  clear N₇a
  have hs3 : ∀ p ∈ rs, p ∈ fx3 := fun p hp => by rw [← hfx3]; exact List.mem_append_right _ (List.mem_append_right _ hp)
  have h105 : ∀ p ∈ fx3, p.1 ≠ 105 := off_of N₇ fun p hp => by
    rw [← hfx3] at hp
    simp only [List.cons_append, List.nil_append, List.mem_cons] at hp
    rcases hp with rfl | rfl | rfl | rfl | rfl | rfl | rfl | rfl | rfl | hp
    all_goals first | exact .inr (hnc _ hp) | (refine .inl ?_; dsimp only; omega)
  have hc3 : (L' + 1 + 1 + 1 + 1, c3) ∈ fx3 := by rw [← hfx3]; exact .tail _ (.tail _ (.head _))
  with_unfolding_all refine compL g L' mx (fun i ys gs' nw => gs' = gs ∧ ∃ tab cs, nw = (105, tab) :: (fx3 ++ (cs ++ [])) ∧ TabC 120 18 (Str.ofString "_law_place.<locals>.<lambda>") g tab cs ∧ (∀ p ∈ fx3 ++ (cs ++ []), p.1 ≠ 105) ∧ IntsAre ys ((ps.take i).map fun n => psum (dueI n) (dueI n).length)) (fun nw => (Ds, W.listOf (refs rowsS).toArray ks) ∈ nw) rfl (by decide) rfl (by decide) (by rintro i ys gs nw ⟨_, tab, cs, rfl, _⟩; exact .tail _ (List.mem_append_left _ (hs3 _ hDs))) ?_
  repeat ((fail_if_success (with_reducible show wpAny _ _ (eval (Expr.Name _ _) _) _ _ _)); (first | (k_unfold; (try dsimp only)) | walk1 | (dsimp only; walk1)))
  k_dflt (refine' nameX_L ?nF hsets ?_; (case nF => k_asm); k_whole)
  repeat ((fail_if_success (with_reducible show wpAny _ _ (pyIter _) _ _ _)); (first | (k_unfold; (try dsimp only)) | walk1 | (dsimp only; walk1)))
  refine CompG.list (.tail _ (hs3 _ hDs)) (by rw [List.length_map, hlS.1, List.length_map, hps]; decide) (show (A.deeper _).handled = none from hA) rfl rfl F N₇ ⟨rfl, _, [], by rw [List.append_nil, List.append_nil], .inl rfl, by rw [List.append_nil, List.append_nil]; exact h105, .nil⟩ (fun _ h => h) ?_ ?_
  · rintro i v ys gs' nw I oI C oC D oD h tk m₂ E' hi ⟨rfl, tab, cs, rfl, htc, hof, hys⟩ hC F₂ N₂ off hne
    clear F N₇
    obtain ⟨r, kr, vr, n, rfl, hr, hn, ir⟩ := hlS.row hi
    have hk : nm1 (Str.ofString "marks") (.ref r) m₂ (Str.ofString "marks") = some (.ref r) := if_pos rfl
    have N₂e := N₂
    rw [← hfx3] at N₂e
    (try simp only [List.cons_append, List.nil_append] at N₂e)
    repeat ((fail_if_success (with_reducible show wpAny _ _ (call (Value.ref 110) _) _ _ _)); (first | (k_unfold; (try dsimp only)) | walk1 | (dsimp only; walk1)))
    rename Fr _ _ _ _ => F₃
    have hT3 : TabOk 105 120 18 (Str.ofString "_law_place.<locals>.<lambda>") _ := htc.ok (N₂ _ (.tail _ (.tail _ (.tail _ (.head _))))).1 F₃.keep (fun p hp => N₂ p (.tail _ (.tail _ (.tail _ (.tail _ (List.mem_append_right _ (List.mem_append_left _ hp)))))))
    have hrl := (N₂ _ (.tail _ (.tail _ (.tail _ (.tail _ (List.mem_append_left _ (hs3 _ (hrS _ hr)))))))).1
    have hdl : (dueI n).length ≤ 4 := due_len n
    refine place_spec (pushX BG F₃ rfl rfl) XB TB ?d1 ?d2 ?d3 ?d4 hA C1 (hb 105 (by k_mem)) hT3 ⟨_, hrl, rfl, _, rfl⟩ ir (hwi.at fun p hp => (N₂ _ (.tail _ (.tail _ (.tail _ (.tail _ (List.mem_append_left _ (hs3 _ hp))))))).1) hdl (due_mem n) ?_
    case d1 => show A.depth + 1 < _; omega
    case d2 => show A.units + 3 + 20 < _; omega
    case d3 => show A.depth + 1 + 100 < _; omega
    case d4 => show A.units + 3 + 100 < _; omega
    intro h9 tk9 u9 ex9 ts9
    refine TurnEnd.snocTs (fx := fx3) (cs := cs) (rows := []) (os := []) N₂ F₃ hC off hof ex9 ts9 htc (fun _ h => nomatch h) fun tab' cs' tc' off' => ⟨rfl, tab', cs', rfl, tc', off', ?_⟩
    rw [List.take_add_one, hn, Option.toList_some, List.map_append]
    exact hys.append (.cons _ _ .nil)
  · rintro ys gs' nw Dw Cw kw h tk ⟨rfl, tab, cs, rfl, htc, hof, hys⟩ hlen F₂ N₂ off
    have hlS' := hlS.1
    rw [List.length_map] at hlS'
    rw [List.length_map, hlS', List.take_length] at hys
    obtain ⟨a105, rfl⟩ : ∃ a, tab = tabObj a := by
      rcases htc with rfl | ⟨c', oc, vs, t, rfl, _⟩
      · exact ⟨_, rfl⟩
      · exact ⟨_, rfl⟩
    obtain ⟨rs', N₃, hnc', hrs', _, hDw⟩ := News.absorb2 (a := [_, _, _, _, _, _]) (b := [_, _, _]) (rs := rs) N₂ hfx3 hnc (fun _ h => nomatch h) ⟨fun v e => (nomatch e), fun e => (nomatch e)⟩
    clear N₂ N₇ F off hof htc
    (try simp only [List.cons_append, List.nil_append] at N₃)
    k_dflt (refine' stCellR (hd := [_, _, _, _, _, _, _, _, _, _]) ?cF2 ?cN2 ?cc2 ?cU2 ?cd2 ?cr2 ?_ ?ca2 ?cb2; (case ca2 => rfl); (case cb2 => rfl); (case cc2 => rfl); (case cF2 => k_asm); (case cN2 => exact N₃); (case cU2 => k_updF); (case cd2 => k_asm); (case cr2 => exact fun p hp => (hnc' p hp).1); k_whole); intro h' o' F' N' d'
    (try simp only [List.cons_append, List.nil_append] at N')
    dsimp only; k_dflt (refine' lawCutI (K := Mine.hd.heap_1 w.params) (f := 120) 8 ?k6 ?he ?_; (case k6 => k_is); (case he => rfl); k_whole)
    exact k _ _ _ _ _ _ _ rs' F' N' d' hrs' hnc' hDw hys
end Mine
end
section
open PySem PySem.W PySem.Calls PyProof.Rows
set_option Elab.async false
set_option maxRecDepth 100000
set_option maxHeartbeats 4000000
set_option linter.unusedVariables false
set_option linter.unusedSimpArgs false
namespace Mine

theorem law_L {w : World} {A : Around} {base g : Heap} {p : Program} {loose : List Str} {mean : ExcName → Option Value} {mg mb : Str → Option Value} {L' : Addr} {h : Heap} {gs : Array GenState} {dr : Drawn} {tk : Nat} {os : OsState} {Q : Flow → Shared → Prop} {mx : Str → Option Value} {Ds Dd lw : Addr} {ks kd : Nat} {rs rowsS rowsD : List (Addr × Obj)} {ps : List Int} (BG : Below A base [] g) (XB : (KK w).In base) (TB : Top p loose mean mg mb base) (hd : A.depth < recursionLimit) (hu : A.units + 20 < cLine) (hdp : A.depth + 500 < recursionLimit) (hu2 : A.units + 500 < cLine) (hA : A.handled = none)
   (C1 : CodeHd base 109 105) (C3 : CodeHd base 34 30) (C4 : CodeHd base 119 117) (hb : ∀ P ∈ [105, 74, 30, 117], base.get? P = none) (hgP : ∀ P ∈ [105, 74, 30, 117], g.get? P = none) (lP' : ∀ P ∈ [105, 74, 30, 117], P < L')
   (F : Fr g L' h mx) (hsets : mx (Str.ofString "sets") = some (.ref Ds)) (hnc : ∀ p ∈ rs, NC p) (hDs : (Ds, W.listOf (refs rowsS).toArray ks) ∈ rs) (hrS : ∀ p ∈ rowsS, p ∈ rs) (hDd : (Dd, W.listOf (refs rowsD).toArray kd) ∈ rs) (hrD : ∀ p ∈ rowsD, p ∈ rs)
   (hlS : LR rowsS (ps.map dueI)) (hlD : LR rowsD (ps.map dueI)) (hps : ps.length = 5) (hwi : WaysIn rs lw) {c1 c2 c3 c4 c5 c6 : Obj} {v2 v5 v6 : Option Value} {Dw : Addr} {nw : Nat} {vw : List Value} (e1 : c1.data = .cell (some (.ref Dw))) (e2 : c2.data = .cell v2) (e3 : c3.data = .cell (some (.ref lw))) (e4 : c4.data = .cell (some (.ref Dd))) (e5 : c5.data = .cell v5) (e6 : c6.data = .cell v6) {a74 a105 a117 : Array Value}
   (hDw : (Dw, W.listOf (List.toArray vw) nw) ∈ rs) (ipw : IntsAre vw (ps.map fun n => pw (dueI n)))
   (N : News g L' h ([(L' + 1 + 1 + 1 + 1 + 1 + 1, c1), (L' + 1 + 1 + 1 + 1 + 1, c2), (L' + 1 + 1 + 1 + 1, c3), (L' + 1 + 1 + 1, c4), (L' + 1 + 1, c5), (L' + 1, c6), (105, tabObj a105), (74, tabObj a74), (30, tabObj #[]), (117, tabObj a117)] ++ rs))
   (k : ∀ h' tk' mx', Fr g L' h' mx' → mx' (Str.ofString "sets") = some (.ref Ds) → News g L' h' ([(L' + 1 + 1 + 1 + 1 + 1 + 1, c1), (L' + 1 + 1 + 1 + 1 + 1, c2), (L' + 1 + 1 + 1 + 1, c3), (L' + 1 + 1 + 1, c4), (L' + 1 + 1, c5), (L' + 1, c6), (105, tabObj a105), (74, tabObj a74), (30, tabObj #[]), (117, tabObj a117)] ++ rs) →
     wpAny (model PR w) (A.deeper (lawEnv w L')) (execs (lawR w 9) (lawEnv w L')) Q (fun _ _ => False) ⟨h', gs, dr, tk', os⟩) :
   wpAny (model PR w) (A.deeper (lawEnv w L')) (execs (lawR w 8) (lawEnv w L')) Q (fun _ _ => False) ⟨h, gs, dr, tk, os⟩ := by
  unfold lawEnv lawR KK PR at *
  revert XB; k_fill; intro XB
  have XG := XB.keeps BG.stays
  have TG := TB.keeps BG.stays
  k_dflt (refine' lawCut ?k6 ?_; (case k6 => k_is); k_whole)
  dsimp only [List.drop]
  have l0 : (105 : Nat) < L' ∧ (74 : Nat) < L' ∧ (30 : Nat) < L' ∧ (117 : Nat) < L' := ⟨lP' _ (by k_mem), lP' _ (by k_mem), lP' _ (by k_mem), lP' _ (by k_mem)⟩

  obtain ⟨nw0, hnw0, N⟩ := News.fix N
  have hr0 : ∀ p ∈ rs, p ∈ nw0 := fun p hp => by rw [← hnw0]; exact List.mem_append_right _ hp
  repeat ((fail_if_success (with_reducible show wpAny _ _ (exec (Stmt.For _ _ _ _ _) _) _ _ _)); (first | (k_unfold; (try dsimp only)) | walk1 | (dsimp only; walk1)))
  with_unfolding_all refine For_invV g rfl rfl ?it (by intro _; rfl) ?pe
  case pe => passes_own
  repeat ((fail_if_success (with_reducible show wpAny _ _ (pyIter _) _ _ _)); (first | (k_unfold; (try dsimp only)) | walk1 | (dsimp only; walk1)))
  rename IsRange _ _ _ _ _ _ _ _ => hR
  rename Fr _ _ _ _ => Fz
  rename News _ _ _ _ => Nz
  rename Heap => hY
  refine wpAny_pyIter_range hR rfl ?_
  refine loopAt _ [_] [_] 5 _ _ _ nw0 (fun i m news => nw0 = news ∧ m (Str.ofString "sets") = some (.ref Ds)) rfl ((Walks.range (show (A.deeper _).handled = none from hA) _ 0 1 5).bound) ?_ ?_ ?_ ?_ (Fz.push _) (Nz.grown (fun _ _ e => Heap.get?_push_of_some _ e)) ⟨rfl, hsets⟩ ?_ ?_
  · intro hm
    exact absurd (List.mem_singleton.mp hm ▸ Fz.ns.lt) (Nat.lt_irrefl _)
  · intro b hb
    rw [List.mem_singleton.mp hb]
    exact next_is_new Fz
  · intro p hp hm
    exact absurd (List.mem_singleton.mp hm ▸ Heap.lt_size (Nz p hp).1) (Nat.lt_irrefl _)
  · exact Heap.get?_push_size _ rfl
  · rintro i v m₁ news₁ s₁ own ⟨h₁, tk₁, rfl⟩ hi ⟨_, ti, rfl⟩ ⟨rfl, hm₁⟩ hnw hown hown2 hown3 hst F₁ N₁
    clear Fz Nz hR N
    have FS := Fr.withN2 (x := Str.ofString "i") (y := Str.ofString "sets") F₁ (if_pos rfl) ((if_neg (by decide)).trans hm₁)
    clear F₁
    repeat ((fail_if_success (with_reducible show wpAny _ _ (exec (Stmt.For _ _ _ _ _) _) _ _ _)); (first | (k_unfold; (try dsimp only)) | walk1 | (dsimp only; walk1)))
    with_unfolding_all refine For_invV g rfl rfl ?it2 (by intro _; rfl) ?pe2
    case pe2 => passes_own
    repeat ((fail_if_success (with_reducible show wpAny _ _ (pyIter _) _ _ _)); (first | (k_unfold; (try dsimp only)) | walk1 | (dsimp only; walk1)))
    rename IsRange _ _ _ _ _ _ _ _ => hR2
    rename Fr _ _ _ _ => Fy
    rename News _ _ _ _ => Ny
    rename Heap => hZ
    have ei : (0 : Int) + (i : Int) * 1 + 1 = ((i + 1 : Nat) : Int) := by omega
    rw [ei] at hR2
    refine wpAny_pyIter_range hR2 (small_range (by omega)) ?_
    rw [range_size]
    obtain ⟨nw1, hnw1, Ny1⟩ := News.fix Ny
    clear Ny
    refine loopAt _ [_] [_] (i + 1) _ _ _ nw1 (fun j m news => nw1 = news ∧ m (Str.ofString "sets") = some (.ref Ds) ∧ ∃ t, m (Str.ofString "i") = some (.int (0 + (i : Int) * 1) t)) rfl ((Walks.range (show (A.deeper _).handled = none from hA) _ 0 1 (i + 1)).bound) ?_ ?_ ?_ ?_ (Fy.push _) (Ny1.grown (fun _ _ e => Heap.get?_push_of_some _ e)) ⟨rfl, rfl, _, rfl⟩ ?_ ?_
    · intro hm
      exact absurd (List.mem_singleton.mp hm ▸ Fy.ns.lt) (Nat.lt_irrefl _)
    · intro b hb
      rw [List.mem_singleton.mp hb]
      exact next_is_new Fy
    · intro p hp hm
      exact absurd (List.mem_singleton.mp hm ▸ Heap.lt_size (Ny1 p hp).1) (Nat.lt_irrefl _)
    · exact Heap.get?_push_size _ rfl
    · rintro j v m₂ news₂ s₂ own₂ ⟨h₂, tk₂, rfl⟩ hj ⟨_, tj, rfl⟩ ⟨rfl, hm₂, ti2, hm₃⟩ hnw₂ hown₂ hown₂2 hown₂3 hst₂ F₂ N₂
      have FT := Fr.withN2 (x := Str.ofString "j") (y := Str.ofString "sets") F₂ (if_pos rfl) ((if_neg (by decide)).trans hm₂)
      have FU := Fr.withN (x := Str.ofString "i") FT ((if_neg (by decide)).trans ((if_neg (by decide)).trans ((if_neg (by decide)).trans hm₃)))
      clear FT F₂ Fy Ny1 hR2
      have N₃ : News g L' h₂ ([(L' + 1 + 1 + 1 + 1 + 1 + 1, c1), (L' + 1 + 1 + 1 + 1 + 1, c2), (L' + 1 + 1 + 1 + 1, c3), (L' + 1 + 1 + 1, c4), (L' + 1 + 1, c5), (L' + 1, c6), (105, tabObj a105), (74, tabObj a74), (30, tabObj #[]), (117, tabObj a117)] ++ (own₂ ++ (own ++ rs))) := fun p hp => N₂ p (by rw [← hnw1, ← hnw0]; exact mem4 hp)
      clear N₂
      simp only [List.cons_append, List.nil_append] at N₃
      have hin : ∀ q ∈ rs, q ∈ own₂ ++ (own ++ rs) := fun q hq => List.mem_append_right _ (List.mem_append_right _ hq)
      obtain ⟨ni, hni⟩ : ∃ n, ps[i]? = some n := ⟨_, List.getElem?_eq_getElem (by omega)⟩
      obtain ⟨nj, hnj⟩ : ∃ n, ps[j]? = some n := ⟨_, List.getElem?_eq_getElem (by omega)⟩
      obtain ⟨si, ki, vi, hsi, msi, isi⟩ := hlS.at hni
      obtain ⟨sj, kj, vj, hsj, msj, isj⟩ := hlS.at hnj
      obtain ⟨di, ki2, ui, hdi, mdi, idi⟩ := hlD.at hni
      obtain ⟨dj, kj2, uj, hdj, mdj, idj⟩ := hlD.at hnj
      obtain ⟨twi, hwi2⟩ := ipw.get i (pw (dueI ni)) (by rw [List.getElem?_map, hni]; rfl)
      obtain ⟨twj, hwj2⟩ := ipw.get j (pw (dueI nj)) (by rw [List.getElem?_map, hnj]; rfl)
      have fi := due_facts ni
      have fj := due_facts nj
      repeat ((fail_if_success (with_reducible show wpAny _ _ (subscriptTail _ _ _ _) _ _ _)); (first | (k_unfold; (try dsimp only)) | walk1 | (dsimp only; walk1)))
      rename Fr _ _ _ _ => Fw
      rename News _ _ _ _ => Nw
      have hDs' := (Nw _ (.tail _ (.tail _ (.tail _ (.tail _ (.tail _ (.tail _ (.tail _ (.tail _ (.tail _ (.tail _ (hin _ hDs)))))))))))).1
      refine item_at (vs := refs rowsS) ⟨_, hDs', rfl, _, rfl⟩ (by omega) (by omega) (by rw [show ((0 : Int) + (i : Int) * 1).toNat = i by omega]; exact hsi) ?_
      repeat ((fail_if_success (with_reducible show wpAny _ _ (subscriptTail _ _ _ _) _ _ _)); (first | (k_unfold; (try dsimp only)) | walk1 | (dsimp only; walk1)))
      have hDs' := (Nw _ (.tail _ (.tail _ (.tail _ (.tail _ (.tail _ (.tail _ (.tail _ (.tail _ (.tail _ (.tail _ (hin _ hDs)))))))))))).1
      refine item_at (vs := refs rowsS) ⟨_, hDs', rfl, _, rfl⟩ (by omega) (by omega) (by rw [show ((0 : Int) + (j : Int) * 1).toNat = j by omega]; exact hsj) ?_
      repeat ((fail_if_success (with_reducible show wpAny _ _ (call (Value.ref 21) _) _ _ _)); (first | (k_unfold; (try dsimp only)) | walk1 | (dsimp only; walk1)))
      have hmi := (Nw _ (.tail _ (.tail _ (.tail _ (.tail _ (.tail _ (.tail _ (.tail _ (.tail _ (.tail _ (.tail _ (hin _ (hrS _ msi))))))))))))).1
      have hmj := (Nw _ (.tail _ (.tail _ (.tail _ (.tail _ (.tail _ (.tail _ (.tail _ (.tail _ (.tail _ (.tail _ (hin _ (hrS _ msj))))))))))))).1
      refine sld (pushX BG Fw rfl rfl) XB TB hA ?d1 ?d2 ⟨_, hmi, rfl, _, rfl⟩ ⟨_, hmj, rfl, _, rfl⟩ isi isj (by omega) (by omega) fi.1 fj.1 ?_
      case d1 => show A.depth + 1 < _; omega
      case d2 => show A.units + 3 + 20 < _; omega
      intro g₁ h₃ tk₃ t a b va ub na nb T st ht ha hbb ia ib ft fa fb
      have T₂ : Tn [L'] _ h₃ := Tn.of T st
      have F₃ := T₂.fr Fw
      have N₄ : News g L' h₃ ((t, { cls := .type "tuple", data := .seq #[.ref a, .ref b] }) :: (a, W.listOf va.toArray na) :: (b, W.listOf ub.toArray nb) :: ([(L' + 1 + 1 + 1 + 1 + 1 + 1, c1), (L' + 1 + 1 + 1 + 1 + 1, c2), (L' + 1 + 1 + 1 + 1, c3), (L' + 1 + 1 + 1, c4), (L' + 1 + 1, c5), (L' + 1, c6), (105, tabObj a105), (74, tabObj a74), (30, tabObj #[]), (117, tabObj a117)] ++ (own₂ ++ (own ++ rs)))) := by
        simp only [List.cons_append, List.nil_append]
        intro q hq
        rcases List.mem_cons.mp hq with rfl | hq
        · exact ⟨ht, kts_fresh T Fw ft⟩
        · rcases List.mem_cons.mp hq with rfl | hq
          · exact ⟨ha, kts_fresh T Fw fa⟩
          · rcases List.mem_cons.mp hq with rfl | hq
            · exact ⟨hbb, kts_fresh T Fw fb⟩
            · exact T₂.news Nw q hq
      clear Fw Nw
      simp only [List.cons_append, List.nil_append] at N₄
      repeat ((fail_if_success (with_reducible show wpAny _ _ (subscriptTail _ _ _ _) _ _ _)); (first | (k_unfold; (try dsimp only)) | walk1 | (dsimp only; walk1)))
      rename News _ _ _ _ => Nw
      have hz1 := (Nw _ (.tail _ (.tail _ (.tail _ (.tail _ (.tail _ (.tail _ (.tail _ (.tail _ (.tail _ (.tail _ (.tail _ (.tail _ (.tail _ (hin _ hDd))))))))))))))).1
      refine item_at (vs := refs rowsD) ⟨_, hz1, rfl, _, rfl⟩ (by omega) (by omega) (by rw [show ((0 : Int) + (i : Int) * 1).toNat = i by omega]; exact hdi) ?_
      skip
      repeat ((fail_if_success (with_reducible show wpAny _ _ (subscriptTail _ _ _ _) _ _ _)); (first | (k_unfold; (try dsimp only)) | walk1 | (dsimp only; walk1)))
      rename News _ _ _ _ => Nw
      have hz2 := (Nw _ (.tail _ (.tail _ (.tail _ (.tail _ (.tail _ (.tail _ (.tail _ (.tail _ (.tail _ (.tail _ (.tail _ (.tail _ (.tail _ (hin _ hDd))))))))))))))).1
      refine item_at (vs := refs rowsD) ⟨_, hz2, rfl, _, rfl⟩ (by omega) (by omega) (by rw [show ((0 : Int) + (j : Int) * 1).toNat = j by omega]; exact hdj) ?_
      repeat ((fail_if_success (with_reducible show wpAny _ _ (call (Value.ref 84) _) _ _ _)); (first | (k_unfold; (try dsimp only)) | walk1 | (dsimp only; walk1)))
      rename Fr _ _ _ _ => Fw
      rename News _ _ _ _ => Nw
      have q1 := (Nw _ (.tail _ (.tail _ (.tail _ (.tail _ (.tail _ (.tail _ (.tail _ (.tail _ (.tail _ (.tail _ (.tail _ (.tail _ (.tail _ (hin _ (hrD _ mdi)))))))))))))))).1
      have q2 := (Nw _ (.tail _ (.tail _ (.tail _ (.tail _ (.tail _ (.tail _ (.tail _ (.tail _ (.tail _ (.tail _ (.tail _ (.tail _ (.tail _ (hin _ (hrD _ mdj)))))))))))))))).1
      refine alone_spec (pushX BG Fw rfl rfl) XB TB ?aX1 ?aX2 hA ⟨_, q1, rfl, _, rfl⟩ ⟨_, q2, rfl, _, rfl⟩ idi idj (by omega) ?_
      case aX1 => show A.depth + 1 < _; omega
      case aX2 => show A.units + 3 + 20 < _; omega
      intro hX tkX lX vX nX stX hlX ilX frX
      have FX := Fr.keeps Fw stX
      have NX := news_more Fw Nw stX (fun b o e q => by rw [q, frX] at e; cases e) hlX
      clear Fw Nw q1 q2
      repeat ((fail_if_success (with_reducible show wpAny _ _ (subscriptTail _ _ _ _) _ _ _)); (first | (k_unfold; (try dsimp only)) | walk1 | (dsimp only; walk1)))
      rename News _ _ _ _ => Nw
      have hz3 := (Nw _ (.tail _ (.tail _ (.tail _ (.tail _ (.tail _ (.tail _ (.tail _ (.tail _ (.tail _ (.tail _ (.tail _ (.tail _ (.tail _ (.tail _ (hin _ hDd)))))))))))))))).1
      refine item_at (vs := refs rowsD) ⟨_, hz3, rfl, _, rfl⟩ (by omega) (by omega) (by rw [show ((0 : Int) + (j : Int) * 1).toNat = j by omega]; exact hdj) ?_
      repeat ((fail_if_success (with_reducible show wpAny _ _ (subscriptTail _ _ _ _) _ _ _)); (first | (k_unfold; (try dsimp only)) | walk1 | (dsimp only; walk1)))
      rename News _ _ _ _ => Nw
      have hz4 := (Nw _ (.tail _ (.tail _ (.tail _ (.tail _ (.tail _ (.tail _ (.tail _ (.tail _ (.tail _ (.tail _ (.tail _ (.tail _ (.tail _ (.tail _ (hin _ hDd)))))))))))))))).1
      refine item_at (vs := refs rowsD) ⟨_, hz4, rfl, _, rfl⟩ (by omega) (by omega) (by rw [show ((0 : Int) + (i : Int) * 1).toNat = i by omega]; exact hdi) ?_
      repeat ((fail_if_success (with_reducible show wpAny _ _ (call (Value.ref 84) _) _ _ _)); (first | (k_unfold; (try dsimp only)) | walk1 | (dsimp only; walk1)))
      rename Fr _ _ _ _ => Fw
      rename News _ _ _ _ => Nw
      have q1 := (Nw _ (.tail _ (.tail _ (.tail _ (.tail _ (.tail _ (.tail _ (.tail _ (.tail _ (.tail _ (.tail _ (.tail _ (.tail _ (.tail _ (.tail _ (hin _ (hrD _ mdj))))))))))))))))).1
      have q2 := (Nw _ (.tail _ (.tail _ (.tail _ (.tail _ (.tail _ (.tail _ (.tail _ (.tail _ (.tail _ (.tail _ (.tail _ (.tail _ (.tail _ (.tail _ (hin _ (hrD _ mdi))))))))))))))))).1
      refine alone_spec (pushX BG Fw rfl rfl) XB TB ?aY1 ?aY2 hA ⟨_, q1, rfl, _, rfl⟩ ⟨_, q2, rfl, _, rfl⟩ idj idi (by omega) ?_
      case aY1 => show A.depth + 1 < _; omega
      case aY2 => show A.units + 3 + 20 < _; omega
      intro hY tkY lY vY nY stY hlY ilY frY
      have FY := Fr.keeps Fw stY
      have NY := news_more Fw Nw stY (fun b o e q => by rw [q, frY] at e; cases e) hlY
      clear Fw Nw q1 q2
      repeat ((fail_if_success (with_reducible show wpAny _ _ (compareOp _ _ _) _ _ _)); (first | (k_unfold; (try dsimp only)) | walk1 | (dsimp only; walk1)))
      rename Fr _ _ _ _ => Fw
      rename News _ _ _ _ => Nw
      rw [sdiff_pfil fi.1 fj.1] at ia ib
      have lA : (pfil (dueI ni) (dueI nj)).length ≤ 100 := Nat.le_trans (List.length_filter_le _ _) (by omega)
      have lB : (pfil (dueI nj) (dueI ni)).length ≤ 100 := Nat.le_trans (List.length_filter_le _ _) (by omega)
      refine dat_ne (d := .tuple [datL (pfil (dueI ni) (dueI nj)), datL (pfil (dueI nj) (dueI ni))]) Nw (.tuple (vs := [.ref a, .ref b]) (n := 0) (.tail _ (.tail _ (.tail _ (.head _)))) (.cons (.list (.tail _ (.tail _ (.tail _ (.tail _ (.head _))))) (ints_dat ia)) (.cons (.list (.tail _ (.tail _ (.tail _ (.tail _ (.tail _ (.head _)))))) (ints_dat ib)) .nil))) (fun _ h => h)
        (.tuple (vs := [.ref lX, .ref lY]) (n := 0) (.head _) (.cons (.list (.tail _ (.tail _ (.head _))) (ints_dat ilX)) (.cons (.list (.tail _ (.head _)) (ints_dat ilY)) .nil))) (fun _ h => h) (by rw [PySem.W.kqdOk]; exact List.all_eq_true.mpr (dat_ok [_, _])) (by show A.units + 3 + 64 < _; omega) ?_
      repeat ((fail_if_success (with_reducible show wpAny _ _ (call (Value.ref 91) _) _ _ _)); (first | (k_unfold; (try dsimp only)) | walk1 | (dsimp only; walk1)))
      rename Fr _ _ _ _ => Fw
      rename News _ _ _ _ => Nw
      have q1 := (Nw _ (.tail _ (.tail _ (.tail _ (.head _))))).1
      have q2 := (Nw _ (.tail _ (.tail _ (.tail _ (.tail _ (.head _)))))).1
      have q3 := (Nw _ (.tail _ (.tail _ (.tail _ (.tail _ (.tail _ (.head _))))))).1
      refine cmp_spec (pushX BG Fw rfl rfl) XB TB ?b1 ?b2 ?b3 ?b4 q1 ⟨_, q2, rfl, _, rfl⟩ ⟨_, q3, rfl, _, rfl⟩ ia ib lA lB ?_
      case b1 => show A.depth + 1 < _; omega
      case b2 => show A.units + 3 + 20 < _; omega
      case b3 => show A.depth + 1 + 200 < _; omega
      case b4 => show A.units + 3 + 300 < _; omega
      intro hC tkC nC uC stC enC
      have FC := Fr.keeps Fw stC
      have NC' := News.grown Nw stC
      clear Fw Nw q1 q2 q3
      repeat ((fail_if_success (with_reducible show wpAny _ _ (subscriptTail _ _ _ _) _ _ _)); (first | (k_unfold; (try dsimp only)) | walk1 | (dsimp only; walk1)))
      rename News _ _ _ _ => Nw
      have hz5 := (Nw _ (.tail _ (.tail _ (.tail _ (.tail _ (.tail _ (.tail _ (.tail _ (.tail _ (.tail _ (.tail _ (.tail _ (.tail _ (.tail _ (.tail _ (.tail _ (.tail _ (hin _ hDw)))))))))))))))))).1
      refine item_at (vs := vw) ⟨_, hz5, rfl, _, rfl⟩ (by omega) (by omega) (by rw [show ((0 : Int) + (i : Int) * 1).toNat = i by omega]; exact hwi2) ?_
      repeat ((fail_if_success (with_reducible show wpAny _ _ (subscriptTail _ _ _ _) _ _ _)); (first | (k_unfold; (try dsimp only)) | walk1 | (dsimp only; walk1)))
      rename News _ _ _ _ => Nw
      have hz6 := (Nw _ (.tail _ (.tail _ (.tail _ (.tail _ (.tail _ (.tail _ (.tail _ (.tail _ (.tail _ (.tail _ (.tail _ (.tail _ (.tail _ (.tail _ (.tail _ (.tail _ (hin _ hDw)))))))))))))))))).1
      refine item_at (vs := vw) ⟨_, hz6, rfl, _, rfl⟩ (by omega) (by omega) (by rw [show ((0 : Int) + (j : Int) * 1).toNat = j by omega]; exact hwj2) ?_
      repeat ((fail_if_success (with_reducible show wpAny _ _ (call (Value.ref 98) _) _ _ _)); (first | (k_unfold; (try dsimp only)) | walk1 | (dsimp only; walk1)))
      rename Fr _ _ _ _ => Fw
      rename News _ _ _ _ => Nw
      have bi := pw_bound _ fi.2.1
      have bj := pw_bound _ fj.2.1
      refine sign_spec (pushX BG Fw rfl rfl) XB TB ?s1 ?s2 (by omega) (by omega) ?_
      case s1 => show A.depth + 1 < _; omega
      case s2 => show A.units + 3 + 20 < _; omega
      intro hD tkD uD stD
      have FD := Fr.keeps Fw stD
      have ND := News.grown Nw stD
      clear Fw Nw
      rw [cmp_sign fi.1 fj.1 fi.2.1 fj.2.1] at enC
      subst enC
      repeat ((fail_if_success (with_reducible show LoopStepV _ _ _ _ _ _ _ _ _ _)); (first | (k_unfold; (try dsimp only)) | walk1 | (dsimp only; walk1)))
      · exact absurd rfl (by assumption)
      repeat ((fail_if_success (with_reducible show LoopStepV _ _ _ _ _ _ _ _ _ _)); (first | (k_unfold; (try dsimp only)) | walk1 | (dsimp only; walk1)))
      exact LoopStepV.ofU (LoopStepU.intro (Jn := fun m news => nw1 = news ∧ m (Str.ofString "sets") = some (.ref Ds) ∧ ∃ t, m (Str.ofString "i") = some (.int (0 + (i : Int) * 1) t)) FD (fun p hp => ND p (.tail _ (.tail _ (.tail _ (.tail _ (.tail _ (.tail _ (mem4' (b := own₂) (c := own) (by rw [← hnw1, ← hnw0] at hp; exact hp))))))))) hnw₂ ⟨rfl, rfl, _, rfl⟩)
    · rintro h₂ tk₂ m₂ news₂ F₂ N₂ hnw₂ ⟨rfl, hm₂, ti2, hm₃⟩
      dsimp only
      refine wpAny_execs_nil ?_
      exact LoopStepV.ofU (LoopStepU.intro (Jn := fun m news => nw0 = news ∧ m (Str.ofString "sets") = some (.ref Ds)) F₂ (hnw1 ▸ N₂) hnw ⟨rfl, hm₂⟩)
  · rintro h₁ tk₁ m₁ news₁ F₁ N₁ hnw ⟨rfl, hm₁⟩
    dsimp only; k_dflt (refine' lawCutI (K := Mine.hd.heap_1 w.params) (f := 120) 9 ?k6 ?he ?_; (case k6 => k_is); (case he => rfl); k_whole)
    exact k _ _ _ F₁ hm₁ (hnw0 ▸ N₁)
end Mine
end
section
open PySem PySem.W PySem.Calls PyProof.Rows
set_option Elab.async false
set_option maxRecDepth 100000
set_option maxHeartbeats 4000000
set_option linter.unusedVariables false
set_option linter.unusedSimpArgs false
namespace Mine

theorem law_K {w : World} {A : Around} {base g : Heap} {outer : List Env} {p : Program} {loose : List Str} {mean : ExcName → Option Value} {mg mb : Str → Option Value} {L' : Addr} {h : Heap} {gs : Array GenState} {dr : Drawn} {tk : Nat} {os : OsState} {Q : Flow → Shared → Prop} {mx : Str → Option Value} {Ds Dd lw : Addr} {ks kd : Nat} {rs rowsS rowsD : List (Addr × Obj)} {ps : List Int} (BG : Below A base outer g) (XB : (KK w).In base) (TB : Top p loose mean mg mb base) (hd : A.depth < recursionLimit) (hu : A.units + 20 < cLine) (hdp : A.depth + 500 < recursionLimit) (hu2 : A.units + 500 < cLine) (hA : A.handled = none)
   (C1 : CodeHd base 109 105) (C3 : CodeHd base 34 30) (C4 : CodeHd base 119 117) (hb : ∀ P ∈ [105, 74, 30, 117], base.get? P = none) (hgP : ∀ P ∈ [105, 74, 30, 117], g.get? P = none) (lP' : ∀ P ∈ [105, 74, 30, 117], P < L')
   (F : Fr g L' h mx) (hsets : mx (Str.ofString "sets") = some (.ref Ds)) (hnc : ∀ p ∈ rs, NC p) (hDs : (Ds, W.listOf (refs rowsS).toArray ks) ∈ rs) (hrS : ∀ p ∈ rowsS, p ∈ rs) (hDd : (Dd, W.listOf (refs rowsD).toArray kd) ∈ rs) (hrD : ∀ p ∈ rowsD, p ∈ rs)
   (hlS : LR rowsS (ps.map dueI)) (hlD : LR rowsD (ps.map dueI)) (hps : ps.length = 5) (hwi : WaysIn rs lw) {c1 c2 c3 c4 c5 c6 : Obj} {v1 v5 v6 : Option Value} {Dq : Addr} {nq : Nat} {vq : List Value} (e1 : c1.data = .cell v1) (e2 : c2.data = .cell (some (.ref Dq))) (e3 : c3.data = .cell (some (.ref lw))) (e4 : c4.data = .cell (some (.ref Dd))) (e5 : c5.data = .cell v5) (e6 : c6.data = .cell v6) {a74 a105 a117 : Array Value}
   (hDq : (Dq, W.listOf (List.toArray vq) nq) ∈ rs) (ipq : IntsAre vq (ps.map fun n => psum (dueI n) (dueI n).length))
   (N : News g L' h ([(L' + 1 + 1 + 1 + 1 + 1 + 1, c1), (L' + 1 + 1 + 1 + 1 + 1, c2), (L' + 1 + 1 + 1 + 1, c3), (L' + 1 + 1 + 1, c4), (L' + 1 + 1, c5), (L' + 1, c6), (105, tabObj a105), (74, tabObj a74), (30, tabObj #[]), (117, tabObj a117)] ++ rs))
   (k : ∀ h' tk', Fr g L' h' mx → News g L' h' ([(L' + 1 + 1 + 1 + 1 + 1 + 1, c1), (L' + 1 + 1 + 1 + 1 + 1, c2), (L' + 1 + 1 + 1 + 1, c3), (L' + 1 + 1 + 1, c4), (L' + 1 + 1, c5), (L' + 1, c6), (105, tabObj a105), (74, tabObj a74), (30, tabObj #[]), (117, tabObj a117)] ++ rs) →
     wpAny (model PR w) (A.deeper (lawEnv w L')) (execs (lawR w 10) (lawEnv w L')) Q (fun _ _ => False) ⟨h', gs, dr, tk', os⟩) :
   wpAny (model PR w) (A.deeper (lawEnv w L')) (execs (lawR w 9) (lawEnv w L')) Q (fun _ _ => False) ⟨h, gs, dr, tk, os⟩ := by
  unfold lawEnv lawR KK PR at *
  revert XB; k_fill; intro XB
  have XG := XB.keeps BG.stays
  have TG := TB.keeps BG.stays
  k_dflt (refine' lawCut ?k6 ?_; (case k6 => k_is); k_whole)
  dsimp only [List.drop]
  have l0 : (105 : Nat) < L' ∧ (74 : Nat) < L' ∧ (30 : Nat) < L' ∧ (117 : Nat) < L' := ⟨lP' _ (by k_mem), lP' _ (by k_mem), lP' _ (by k_mem), lP' _ (by k_mem)⟩

  have hrlD := hlD.1
  rw [List.length_map, hps] at hrlD
  repeat ((fail_if_success (with_reducible show wpAny _ _ (eval (Expr.ListComp _ _ _ _) _) _ _ _)); (first | (k_unfold; (try dsimp only)) | walk1 | (dsimp only; walk1)))
  obtain ⟨fx, hfx, N⟩ := News.fix N
  have hr0 : ∀ p ∈ rs, p ∈ fx := fun p hp => by rw [← hfx]; exact List.mem_append_right _ hp
  with_unfolding_all refine compL g L' mx (fun i ys gs' nw => gs' = gs ∧ ∃ rows, nw = fx ++ rows ∧ ys = refs rows ∧ rows.length = i ∧ LR rows ((ps.take i).map dueI)) (fun _ => True) rfl (by decide) rfl (by decide) (fun _ _ _ _ _ => trivial) ?_
  repeat ((fail_if_success (with_reducible show wpAny _ _ (pyIter _) _ _ _)); (first | (k_unfold; (try dsimp only)) | walk1 | (dsimp only; walk1)))
  rename IsRange _ _ _ _ _ _ _ _ => hR
  rename Fr _ _ _ _ => F₁
  rename News _ _ _ _ => N₁
  refine CompG.range (n := 5) hR rfl rfl (by decide) (show (A.deeper _).handled = none from hA) rfl rfl F₁ N₁ ⟨rfl, [], (List.append_nil _).symm, rfl, rfl, LR.nil⟩ ?_ ?_
  · rintro i t ys gs' nw I oI C oC D oD h tk m₂ E' hi ⟨rfl, rows, rfl, rfl, hrl, hlr⟩ hC F₂ N₂ off hne
    clear F₁ N₁ hR
    have N₂e : News g L' h ((I, oI) :: (C, oC) :: (D, oD) :: ([(L' + 1 + 1 + 1 + 1 + 1 + 1, c1), (L' + 1 + 1 + 1 + 1 + 1, c2), (L' + 1 + 1 + 1 + 1, c3), (L' + 1 + 1 + 1, c4), (L' + 1 + 1, c5), (L' + 1, c6), (105, tabObj a105), (74, tabObj a74), (30, tabObj #[]), (117, tabObj a117)] ++ (rs ++ rows))) := fun p hp => N₂ p (by rw [← hfx, List.append_assoc]; exact hp)
    simp only [List.cons_append, List.nil_append] at N₂e
    have hk : nm1 (Str.ofString "k") (.int (i : Int) t) m₂ (Str.ofString "k") = some (.int (i : Int) t) := if_pos rfl
    clear N₂
    obtain ⟨n, hn⟩ : ∃ n, ps[i]? = some n := ⟨_, List.getElem?_eq_getElem (by omega)⟩
    obtain ⟨di, kd2, ud, hdi, mdi, idi⟩ := hlD.at hn
    obtain ⟨tq, hq2⟩ := ipq.get i (psum (dueI n) (dueI n).length) (by rw [List.getElem?_map, hn]; rfl)
    have fi := due_facts n
    repeat ((fail_if_success (with_reducible show wpAny _ _ (subscriptTail _ _ _ _) _ _ _)); (first | (k_unfold; (try dsimp only)) | walk1 | (dsimp only; walk1)))
    rename News _ _ _ _ => Nw
    have hz1 := (Nw _ (.tail _ (.tail _ (.tail _ (.tail _ (.tail _ (.tail _ (.tail _ (.tail _ (.tail _ (.tail _ (.tail _ (.tail _ (.tail _ (List.mem_append_left _ hDq))))))))))))))).1
    refine item_at (vs := vq) ⟨_, hz1, rfl, _, rfl⟩ (by omega) (by omega) (by rw [Int.toNat_natCast]; exact hq2) ?_
    repeat ((fail_if_success (with_reducible show wpAny _ _ (subscriptTail _ _ _ _) _ _ _)); (first | (k_unfold; (try dsimp only)) | walk1 | (dsimp only; walk1)))
    have hz2 := (Nw _ (.tail _ (.tail _ (.tail _ (.tail _ (.tail _ (.tail _ (.tail _ (.tail _ (.tail _ (.tail _ (.tail _ (.tail _ (.tail _ (List.mem_append_left _ hDd))))))))))))))).1
    refine item_at (vs := refs rowsD) ⟨_, hz2, rfl, _, rfl⟩ (by omega) (by omega) (by rw [Int.toNat_natCast]; exact hdi) ?_
    have hz3 := (Nw _ (.tail _ (.tail _ (.tail _ (.tail _ (.tail _ (.tail _ (.tail _ (.tail _ (.tail _ (.tail _ (.tail _ (.tail _ (.tail _ (List.mem_append_left _ (hrD _ mdi)))))))))))))))).1
    have hz4 : Heap.IsList _ di ud.toArray := ⟨_, hz3, rfl, _, rfl⟩
    repeat ((fail_if_success (with_reducible show wpAny _ _ (call (Value.ref 115) _) _ _ _)); (first | (k_unfold; (try dsimp only)) | walk1 | (dsimp only; walk1)))
    rename Fr _ _ _ _ => Fw
    rename News _ _ _ _ => Nw
    refine back_spec (pushX BG Fw rfl rfl) XB TB ?d1 ?d2 ?d3 hA (hwi.at fun p hp => (Nw _ (.tail _ (.tail _ (.tail _ (.tail _ (.tail _ (.tail _ (.tail _ (.tail _ (.tail _ (.tail _ (.tail _ (.tail _ (.tail _ (List.mem_append_left _ hp))))))))))))))).1) ?d4 (psum_nonneg (dueI n)) ?_
    case d1 => show A.depth + 1 < _; omega
    case d2 => show A.units + 3 + 20 < _; omega
    case d3 => show A.units + 3 + 100 < _; omega
    case d4 => exact fi.2.2.1
    intro h8 tk8 l8 vs8 ms8 r8 st8 hl8 i8 br8 fr8
    rw [back_due fi.1 fi.2.1 fi.2.2.1 br8] at i8
    refine TurnEnd.snoc (fx := fx) (rows := rows) ?n8 Fw hC off st8 hl8 fr8 ⟨rfl, _, rfl, refs_snoc.symm, by rw [List.length_append, hrl]; rfl, hlr.take hn i8⟩
    case n8 => rw [← hfx]; simp only [List.cons_append, List.nil_append, List.append_assoc]; exact Nw
  · rintro ys gs' nw Dp Cp kp h tk ⟨rfl, rowsP, rfl, rfl, hrlP, hlr⟩ hlen F₂ N₂ off
    rw [show (5 : Nat) = ps.length from hps.symm, List.take_length] at hlr
    have N₂e : News g L' h ((Dp, W.listOf (refs rowsP).toArray kp) :: ([(L' + 1 + 1 + 1 + 1 + 1 + 1, c1), (L' + 1 + 1 + 1 + 1 + 1, c2), (L' + 1 + 1 + 1 + 1, c3), (L' + 1 + 1 + 1, c4), (L' + 1 + 1, c5), (L' + 1, c6), (105, tabObj a105), (74, tabObj a74), (30, tabObj #[]), (117, tabObj a117)] ++ (rs ++ rowsP))) := fun p hp => N₂ p (by rw [← hfx, List.append_assoc]; exact hp)
    simp only [List.cons_append, List.nil_append] at N₂e
    clear N₂ F₁ N₁ hR
    repeat ((fail_if_success (with_reducible show wpAny _ _ (compareOp _ _ _) _ _ _)); (first | (k_unfold; (try dsimp only)) | walk1 | (dsimp only; walk1)))
    rename Fr _ _ _ _ => Fw
    rename News _ _ _ _ => Nw
    refine dat_ne (d := .list ((ps.map dueI).map datL)) Nw (.list (.head _) (hlr.dat (fun p hp => (.tail _ (.tail _ (.tail _ (.tail _ (.tail _ (.tail _ (.tail _ (.tail _ (.tail _ (.tail _ (.tail _ (List.mem_append_right _ hp))))))))))))))) (fun _ h => h)
      (.list (.tail _ (.tail _ (.tail _ (.tail _ (.tail _ (.tail _ (.tail _ (.tail _ (.tail _ (.tail _ (.tail _ (List.mem_append_left _ hDd)))))))))))) (hlD.dat (fun p hp => (.tail _ (.tail _ (.tail _ (.tail _ (.tail _ (.tail _ (.tail _ (.tail _ (.tail _ (.tail _ (.tail _ (List.mem_append_left _ (hrD _ hp)))))))))))))))) (fun _ h => h) (by rw [PySem.W.kqdOk]; exact List.all_eq_true.mpr (dat_ok _)) (by show A.units + 3 + 64 < _; omega) ?_
    repeat ((fail_if_success (with_reducible show wpAny _ _ (execs (Stmt.Assign _ _ _ :: _) _) _ _ _)); (first | (k_unfold; (try dsimp only)) | walk1 | (dsimp only; walk1)))
    rename Fr _ _ _ _ => Fw
    rename News _ _ _ _ => Nw
    dsimp only; k_dflt (refine' lawCutI (K := Mine.hd.heap_1 w.params) (f := 120) 10 ?k6 ?he ?_; (case k6 => k_is); (case he => rfl); k_whole)
    exact k _ _ Fw (fun p hp => Nw p (.tail _ (by have q : p ∈ [(L' + 1 + 1 + 1 + 1 + 1 + 1, c1), (L' + 1 + 1 + 1 + 1 + 1, c2), (L' + 1 + 1 + 1 + 1, c3), (L' + 1 + 1 + 1, c4), (L' + 1 + 1, c5), (L' + 1, c6), (105, tabObj a105), (74, tabObj a74), (30, tabObj #[]), (117, tabObj a117)] ++ (rs ++ rowsP) := (by rw [← List.append_assoc]; exact List.mem_append_left _ hp); exact q)))
end Mine
end
section
open PySem PySem.W PySem.Calls PyProof.Rows
set_option Elab.async false
set_option maxRecDepth 100000
set_option maxHeartbeats 4000000
set_option linter.unusedVariables false
set_option linter.unusedSimpArgs false
namespace Mine
noncomputable def kasEval {α : Type} (r : Nat → Nat → Bool) : KasT α → α
  | .ret a => a
  | .ask i j k => kasEval r (k (r i j))
noncomputable def asksOk {α : Type} (n : Nat) (r : Nat → Nat → Bool) : KasT α → Prop
  | .ret _ => True
  | .ask i j k => i < n ∧ j < n ∧ asksOk n r (k (r i j))
theorem kas_known {α : Type} {n : Nat} {r : Nat → Nat → Bool} {cmp : Nat → Nat → (Bool → Shared → Prop) → Shared → Prop} {J : Shared → Prop} (hc : ∀ i j s C, i < n → j < n → J s → (∀ s', J s' → C (r i j) s') → cmp i j C s) {Q : α → Shared → Prop} :
    ∀ (t : KasT α) (s : Shared), asksOk n r t → J s → (∀ s', J s' → Q (kasEval r t) s') → t.kasWp cmp Q s
  | .ret a, s, _, hj, hq => hq s hj
  | .ask i j k, s, ha, hj, hq => hc i j s _ ha.1 ha.2.1 hj fun s' hj' => kas_known hc (k (r i j)) s' ha.2.2 hj' hq
theorem kas_zip {keys items : Array Value} {i : Nat} (h1 : i < keys.size) (h2 : i < items.size) : kas_item (keys.zip items) i = (keys.getD i .none, items.getD i .none) := by
  unfold kas_item
  have h3 : i < (keys.zip items).size := by rw [Array.size_zip]; omega
  simp only [Array.getD, h1, h2, h3, dif_pos]
  simp
section
variable {prog : Program} {w : World} {A : Around} {E : Value → Shared → Prop} {s : Shared} {g : Heap} {L : Addr} {m : Str → Option Value} {news : List (Addr × Obj)} {vs : List Value} {n : Nat} {f T : Value} {KO : Nat → Value → List (Addr × Obj) → Prop} {r : Nat → Nat → Bool}
noncomputable abbrev KMk (prog : Program) (w : World) (A : Around) (s : Shared) (g : Heap) (L : Addr) (m : Str → Option Value) (news : List (Addr × Obj)) (vs : List Value) (f : Value) (KO : Nat → Value → List (Addr × Obj) → Prop) : Prop :=
  ∀ i v, vs[i]? = some v → ∀ h tk own, Fr g L h m → News g L h (news ++ own) → wpAny (model prog w) A (call f [v]) (fun k s' => ∃ h' tk' os, s' = { s with heap := h', toks := tk' } ∧ Tn [L] h h' ∧ (∀ p ∈ os, h'.get? p.1 = some p.2 ∧ h.get? p.1 = none) ∧ KO i k os) (fun _ _ => False) { s with heap := h, toks := tk }
noncomputable abbrev KLt (prog : Program) (w : World) (A : Around) (s : Shared) (g : Heap) (L : Addr) (m : Str → Option Value) (news : List (Addr × Obj)) (n : Nat) (KO : Nat → Value → List (Addr × Obj) → Prop) (r : Nat → Nat → Bool) : Prop :=
  ∀ i j ki kj oi oj h tk own, i < n → j < n → KO i ki oi → KO j kj oj → Fr g L h m → News g L h (news ++ own) → (∀ p ∈ oi, p ∈ own) → (∀ p ∈ oj, p ∈ own) → wpAny (model prog w) A (keyLt' oneType' ki kj) (fun c s' => c = r i j ∧ ∃ h' tk', s' = { s with heap := h', toks := tk' } ∧ Tn [L] h h') (fun _ _ => False) { s with heap := h, toks := tk }
theorem sortK_rest {a kS : Addr} {e1 : Nat} {P : PySem.Fin → Shared → Prop} (hn : vs.length = n) (h2 : 2 ≤ n) (h64 : n < 64) (F : Fr g L s.heap m) (N : News g L s.heap (news ++ ([] ++ [(kS, seqObj "list" #[] 0), (a, seqObj "list" #[] e1)]))) (hka : kS ≠ a) (hnk : ∀ p ∈ news, p.1 ≠ kS) (hna : ∀ p ∈ news, p.1 ≠ a)
    (mk : KMk prog w A s g L m news vs f KO) (ty : ∀ i k os h, KO i k os → (∀ p ∈ news ++ os, h.get? p.1 = some p.2) → Looks (model prog w) h (typeOf k) T) (hT1 : (T != Value.type "tuple") = true) (hT2 : (T == T) = true)
    (lt : KLt prog w A s g L m news n KO r) (asks : asksOk n r (kas_sort n))
    (h : ∀ h' tk c, Fr g L h' m → News g L h' ((a, seqObj "list" (List.toArray ((kasEval r (kas_sort n)).toList.map fun i => vs.getD i .none)) c) :: news) → P (.done (.ret .none)) { s with heap := h', toks := tk }) :
    wpAny (model prog w) A (ksk_rest a f false vs.toArray e1 (.ref kS)) P E s := by
  unfold ksk_rest
  refine wpAny_bind (wpAny_rule ?_)
  rw [List.forIn_toArray]
  refine wpAny_bind (ksk_fold (fun i s' => ∃ h' tk kA e own, s' = { s with heap := h', toks := tk } ∧ Fr g L h' m ∧ News g L h' (news ++ (own ++ [(kS, seqObj "list" kA e), (a, seqObj "list" #[] e1)])) ∧ (∀ p ∈ own, p.1 ≠ kS ∧ p.1 ≠ a) ∧ kA.size = i ∧ ∀ j, j < i → ∃ os, KO j (kA.getD j .none) os ∧ ∀ p ∈ os, p ∈ own) vs 0 s
    ⟨s.heap, s.toks, #[], 0, [], rfl, F, N, (fun _ h => nomatch h), rfl, fun _ h => absurd h (Nat.not_lt_zero _)⟩ ?step ?done)
  case step =>
    rintro j x s' hx ⟨h', tk, kA, e, own, rfl, F', N', ho, hsz, hk⟩
    simp only [Nat.zero_add] at hsz hk ⊢
    have hj : j < vs.length := (List.getElem?_eq_some_iff.mp hx).1
    refine wpAny_bind (wpAny_attempt (wpAny_mono (mk j x hx h' tk _ F' N') (fun v s'' he => ?_) fun _ _ hF => hF.elim))
    obtain ⟨h2', tk2, os, rfl, Tn2, hos, hKO⟩ := he
    have F2 := Tn2.fr F'
    have N2 := Tn2.news N'
    have zk := N' (kS, seqObj "list" kA e) (List.mem_append_right _ (List.mem_append_right _ (.head _)))
    have za := N' (a, seqObj "list" #[] e1) (List.mem_append_right _ (List.mem_append_right _ (.tail _ (.head _))))
    have nk := N2 (kS, seqObj "list" kA e) (List.mem_append_right _ (List.mem_append_right _ (.head _)))
    have na := N2 (a, seqObj "list" #[] e1) (List.mem_append_right _ (List.mem_append_right _ (.tail _ (.head _))))
    have oL : ∀ p ∈ os, p.1 ≠ L ∧ g.get? p.1 = none ∧ p.1 ≠ kS ∧ p.1 ≠ a := fun p hp => by
      have z := (hos p hp).2
      refine ⟨fun q => ?_, ?_, fun q => ?_, fun q => ?_⟩
      · obtain ⟨o, es, ep, ho', _⟩ := F'.ns
        rw [← q, z] at ho'; cases ho'
      · cases q : g.get? p.1 with
        | none => rfl
        | some o => rw [F'.keep _ _ q] at z; cases z
      · rw [q, zk.1] at z; cases z
      · rw [q, za.1] at z; cases z
    try dsimp only
    have s1 := Heap.SameBut.update h2' kS (Obj.mapSeq (·.push v))
    obtain ⟨c2, hc2⟩ : ∃ c2, (h2'.update kS (Obj.mapSeq (·.push v))).get? kS = some (seqObj "list" (kA.push v) c2) := ⟨_, get?_update_seq nk.1 (·.push v)⟩
    refine wpAny_bind (listUpdate_at nk.1 rfl ?_ (by rw [sizeLine_eq]; omega) (Nat.le_trans (Nat.le_of_eq (Array.size_push ..)) (by rw [sizeLine_eq]; omega)))
    refine wpAny_pure ⟨rfl, _, _, kA.push v, c2, own ++ os, rfl, ksk_fr F2 s1 nk.2.1 nk.2.2, fun p hp => ?_, fun p hp => ?_, by rw [Array.size_push, hsz], fun i hi => ?_⟩
    · rcases List.mem_append.mp hp with hp | hp
      · exact ksk_news (fun q hq => N2 q (List.mem_append_left _ hq)) s1 hnk p hp
      · rcases List.mem_append.mp hp with hp | hp
        · rcases List.mem_append.mp hp with hp | hp
          · have z := N2 p (List.mem_append_right _ (List.mem_append_left _ hp))
            exact ⟨(s1.2 p.1 (ho p hp).1).trans z.1, z.2⟩
          · exact ⟨(s1.2 p.1 (oL p hp).2.2.1).trans (hos p hp).1, (oL p hp).1, (oL p hp).2.1⟩
        · rcases List.mem_cons.mp hp with rfl | hp
          · exact ⟨hc2, nk.2⟩
          · rw [List.mem_singleton.mp hp]
            exact ⟨(s1.2 a hka.symm).trans na.1, na.2⟩
    · rcases List.mem_append.mp hp with hp | hp
      · exact ho p hp
      · exact (oL p hp).2.2
    · by_cases hi2 : i < j
      · obtain ⟨o2, h3, h4⟩ := hk i hi2
        refine ⟨o2, ?_, fun p hp => List.mem_append_left _ (h4 p hp)⟩
        have e3 : (kA.push v).getD i .none = kA.getD i .none := by
          simp only [Array.getD_eq_getD_getElem?, Array.getElem?_push]
          rw [if_neg (by omega)]
        rw [e3]; exact h3
      · have hij : i = j := by omega
        subst hij
        refine ⟨os, ?_, fun p hp => List.mem_append_right _ hp⟩
        have e3 : (kA.push v).getD i .none = v := by
          simp only [Array.getD_eq_getD_getElem?, Array.getElem?_push]
          rw [if_pos hsz.symm]; rfl
        rw [e3]; exact hKO
  case done =>
    rintro s' ⟨h', tk, kA, e, own, rfl, F', N', ho, hsz, hk⟩
    rw [Nat.zero_add] at hsz hk
    have nk := N' (kS, seqObj "list" kA e) (List.mem_append_right _ (List.mem_append_right _ (.head _)))
    try dsimp only
    refine wpAny_bind (listItems_at nk.1 rfl ?_)
    have hkn : kA.size = n := hsz.trans hn
    have hzs : (kA.zip vs.toArray).size = n := by rw [Array.size_zip, hkn, List.size_toArray, hn, Nat.min_self]
    have hgn : ∀ i, i < n → kas_item (kA.zip vs.toArray) i = (kA.getD i .none, vs.getD i .none) := fun i hi => by
      rw [kas_zip (by omega) (by rw [List.size_toArray]; omega)]
      simp
    unfold ksk_end
    try dsimp only
    rw [if_neg (by decide)]
    have hn2 : ¬ vs.toArray.size < 2 := by rw [List.size_toArray]; omega
    rw [if_neg hn2, if_neg hn2]
    have hkind : wpAny (model prog w) A (keyKind' kA) (fun κ s'' => κ = oneType' ∧ s'' = { s with heap := h', toks := tk }) E { s with heap := h', toks := tk } := by
      have e4 : kA = kA.toList.toArray := (Array.toArray_toList).symm
      rw [e4]
      refine kas_kind (T := T) (by rw [Array.length_toList]; omega) (fun v hv => ?_) hT1 hT2 ⟨rfl, rfl⟩
      obtain ⟨i, hi, rfl⟩ := List.getElem_of_mem hv
      rw [Array.length_toList] at hi
      obtain ⟨os, h3, h4⟩ := hk i (by omega)
      have e5 : kA.getD i .none = kA.toList[i] := by simp [Array.getD, hi]
      rw [e5] at h3
      refine ty i _ os h' h3 fun p hp => ?_
      rcases List.mem_append.mp hp with hp | hp
      · exact (N' p (List.mem_append_left _ hp)).1
      · exact (N' p (List.mem_append_right _ (List.mem_append_left _ (h4 p hp)))).1
    refine wpAny_bind (wpAny_mono hkind ?_ fun _ _ e => e)
    rintro κ s'' ⟨rfl, rfl⟩
    have est : SortSt.mk' oneType' (if false = true then (kA.zip vs.toArray).reverse else kA.zip vs.toArray) #[] 7 none = kas_st oneType' (kA.zip vs.toArray) (List.toArray (List.range n)) := by
      have e5 := kas_range (kA.zip vs.toArray)
      rw [hzs] at e5
      show SortSt.mk' oneType' (kA.zip vs.toArray) #[] 7 none = SortSt.mk' oneType' ((List.toArray (List.range n)).map (kas_item (kA.zip vs.toArray))) #[] 7 none
      rw [e5]
    rw [est]
    refine wpAny_bind (wpAny_mono (kas_runs (E := E) (it := kA.zip vs.toArray) (Q := fun _ st' s' => (∃ h tk, s' = { s with heap := h, toks := tk } ∧ Fr g L h m ∧ News g L h (news ++ (own ++ [(kS, seqObj "list" kA e), (a, seqObj "list" #[] e1)]))) ∧ arrOf st' = (kasEval r (kas_sort n)).map (kas_item (kA.zip vs.toArray)) ∧ failedOf st' = none ∧ (kasEval r (kas_sort n)).size = n) (G := fun p s' => p = kasEval r (kas_sort n) ∧ ∃ h tk, s' = { s with heap := h, toks := tk } ∧ Fr g L h m ∧ News g L h (news ++ (own ++ [(kS, seqObj "list" kA e), (a, seqObj "list" #[] e1)])))
      h2 h64 (fun p' st' s' a1 a2 a3 a4 => ⟨a4.2, by rw [a2, a4.1], a3, by rw [← a4.1]; exact a1⟩)
      (kas_known (n := n) (r := r) (J := fun s' => ∃ h tk, s' = { s with heap := h, toks := tk } ∧ Fr g L h m ∧ News g L h (news ++ (own ++ [(kS, seqObj "list" kA e), (a, seqObj "list" #[] e1)]))) ?_ _ _ asks ⟨h', tk, rfl, F', N'⟩ fun s' hj => ⟨rfl, hj⟩)) ?_ fun _ _ e => e)
    · rintro i j s' C hi hj ⟨h3, tk3, rfl, F3, N3⟩ hC
      obtain ⟨oi, hi1, hi2⟩ := hk i (by omega)
      obtain ⟨oj, hj1, hj2⟩ := hk j (by omega)
      unfold kas_cmp
      rw [hgn i hi, hgn j hj]
      refine wpAny_mono (lt i j _ _ oi oj h3 tk3 _ hi hj hi1 hj1 F3 N3 (fun p hp => List.mem_append_left _ (hi2 p hp)) (fun p hp => List.mem_append_left _ (hj2 p hp))) ?_ fun _ _ e => e
      rintro c s' ⟨rfl, h4, tk4, rfl, T4⟩
      exact hC _ ⟨h4, tk4, rfl, T4.fr F3, T4.news N3⟩
    · rintro ⟨⟨⟩, st'⟩ s' ⟨⟨h3, tk3, rfl, F3, N3⟩, har, hfl, hps⟩
      dsimp only at har hfl ⊢
      have nk := N3 (kS, seqObj "list" kA e) (List.mem_append_right _ (List.mem_append_right _ (.head _)))
      have na := N3 (a, seqObj "list" #[] e1) (List.mem_append_right _ (List.mem_append_right _ (.tail _ (.head _))))
      have s1 := Heap.SameBut.update h3 kS (Obj.mapSeq fun _ => (#[] : Array Value))
      have na1 : (h3.update kS (Obj.mapSeq fun _ => (#[] : Array Value))).get? a = some (seqObj "list" #[] e1) := (s1.2 a hka.symm).trans na.1
      have s2 := Heap.SameBut.update (h3.update kS (Obj.mapSeq fun _ => (#[] : Array Value))) a (Obj.mapSeq fun _ => (arrOf st').map (·.2))
      obtain ⟨c2, hc2⟩ : ∃ c2, ((h3.update kS (Obj.mapSeq fun _ => (#[] : Array Value))).update a (Obj.mapSeq fun _ => (arrOf st').map (·.2))).get? a = some (seqObj "list" ((arrOf st').map (·.2)) c2) := ⟨_, get?_update_seq na1 fun _ => (arrOf st').map (·.2)⟩
      have hout : (arrOf st').map (·.2) = List.toArray ((kasEval r (kas_sort n)).toList.map fun i => vs.getD i .none) := by
        apply Array.toList_inj.mp
        rw [har, Array.map_map, Array.toList_map]
        refine List.map_congr_left fun i _ => ?_
        show (kas_item (kA.zip vs.toArray) i).2 = _
        by_cases hi : i < n
        · rw [hgn i hi]
        · have e6 : kas_item (kA.zip vs.toArray) i = (.none, .none) := by
            unfold kas_item
            rw [Array.getD, dif_neg (by rw [hzs]; exact hi)]
          rw [e6, List.getD_eq_getElem?_getD, List.getElem?_eq_none (by omega)]
          rfl
      have hosz : ((arrOf st').map (·.2)).size = n := by rw [har, Array.size_map, Array.size_map, hps]
      unfold ksk_tail
      try dsimp only
      refine wpAny_bind (listUpdate_at nk.1 rfl ?_ (by rw [hkn, sizeLine_eq]; omega) (Nat.zero_le _))
      refine wpAny_bind (wpAny_letGo ?_)
      refine wpAny_bind (seqEpoch_at na1 rfl ?_)
      refine wpAny_bind (listUpdate_at na1 rfl ?_ (Nat.zero_le _) (Nat.le_trans (Nat.le_of_eq hosz) (by rw [sizeLine_eq]; omega)))
      rw [hfl]
      simp only [bne_self_eq_false, Bool.false_eq_true, if_false]
      refine wpAny_pure (h _ _ c2 (ksk_fr (ksk_fr F3 s1 nk.2.1 nk.2.2) s2 na.2.1 na.2.2) (fun p hp => ?_))
      rcases List.mem_cons.mp hp with rfl | hp
      · rw [← hout]; exact ⟨hc2, na.2⟩
      · exact ksk_news (ksk_news (fun q hq => N3 q (List.mem_append_left _ hq)) s1 hnk) s2 hna p hp
end
end Mine
end
section
open PySem PySem.W PySem.Calls PyProof.Rows
set_option Elab.async false
set_option maxRecDepth 100000
set_option maxHeartbeats 4000000
set_option linter.unusedVariables false
set_option linter.unusedSimpArgs false
namespace Mine
section
variable {prog : Program} {w : World} {A : Around} {E : Value → Shared → Prop} {s : Shared}
theorem collect_range {R : List Value → Shared → Prop} {r : Addr} {n : Nat} {t u v : Tok} (hh : A.handled = none) (hr : IsRange s.heap r 0 n 1 t u v) (hn : n ≤ 100)
    (h : ∀ (h' : Heap) (tk : Nat) (acc : List Value), s.heap.StaysIn h' → acc.length = n → (∀ (i : Nat) (v : Value), acc[i]? = some v → ∃ t, v = Value.int (i : Int) t) → R acc { s with heap := h', toks := tk }) :
    wpAny (model prog w) A (collect (.ref r)) R E s := by
  unfold collect
  refine wpAny_bind (wpAny_runValue (codeAny_builtin entry_proto_collect' ?_))
  rw [Around.under_plainId PySem.F.plain_proto_collect _]
  show wpAny _ A.in1 (newList [] >>= fun l => again (.builtin "list.__iadd__" ⟨[l, .ref r], []⟩)) _ _ s
  refine wpAny_bind (wpAny_newObj_type ?_)
  refine wpAny_pure ⟨plainId_quiet PySem.F.plain_list_iadd _, codeAny_builtin entry_list_iadd' ?_⟩
  rw [Around.under_plainId PySem.F.plain_list_iadd _]
  have hS₁ : (s.heap.push { cls := .type "list", data := .seq ([] : List Value).toArray }).get? s.heap.objs.size = some { cls := .type "list", data := .seq #[] } := Heap.get?_push_size _ rfl
  show wpAny _ A.in1 (Builtin.List.listExtendWith (.ref s.heap.objs.size) (.ref r) (.ref s.heap.objs.size)) _ _ _
  have key := wpAny_extend_range (prog := prog) (w := w) (A := A) (s := { s with heap := s.heap.push { cls := .type "list", data := .seq ([] : List Value).toArray } })
    (R := fun (q : Result) (s' : Shared) => ∃ (h' : Heap) (tk : Nat) (acc' : Array Value) (c' : Nat), q = .ok (.ret (.ref s.heap.objs.size)) ∧ s' = { s with heap := h', toks := tk } ∧
      s.heap.StaysIn h' ∧ h'.get? s.heap.objs.size = some { cls := .type "list", dict := none, data := .seq acc' c', slots := #[] } ∧ ItemsOf (fun i v => ∃ t, v = .int (0 + (i : Int) * 1) t) acc' n)
    hh (Heap.get?_push_of_some _ hr) (small_range hn) range_size (by omega) s.heap.objs.size (.ref s.heap.objs.size) 0 hS₁
    (fun h' tk acc' c' hk hS' hacc => ⟨h', tk, acc', c', rfl, rfl, fun b o e => hk b o (Nat.ne_of_lt (Heap.lt_size e)) (Heap.get?_push_of_some _ e), hS', hacc⟩)
  have fin : ∀ (h' : Heap) (tk : Nat) (acc' : Array Value) (c' : Nat), s.heap.StaysIn h' → h'.get? s.heap.objs.size = some { cls := .type "list", dict := none, data := .seq acc' c', slots := #[] } → ItemsOf (fun i v => ∃ t, v = .int (0 + (i : Int) * 1) t) acc' n →
      wpAny (model prog w) A (do let o ← load s.heap.objs.size; match o.data with | .seq xs _ => pure xs.toList | _ => unsupported "internal:collect") R E { s with heap := h', toks := tk } := by
    intro h' tk acc' c' hk hS' hacc
    refine wpAny_bind (wpAny_load hS' ?_)
    refine wpAny_pure (h h' tk _ hk (by rw [Array.length_toList]; exact hacc.1) fun i v e => ?_)
    obtain ⟨t, q⟩ := hacc.2 i v (by rw [← Array.getElem?_toList]; exact e)
    exact ⟨t, by rw [q]; congr 1; omega⟩
  refine wpAny_mono key (fun fin' s' x => ?_) fun e s' x => ?_
  · cases fin' with
    | done f =>
      obtain ⟨h', tk, acc', c', e, rfl, hk, hS', hacc⟩ := x
      cases e
      exact fin h' tk acc' c' hk hS' hacc
    | again c₁ =>
      refine ⟨x.1, codeAny_mono x.2 fun q s₂ y => ?_⟩
      obtain ⟨h', tk, acc', c', rfl, rfl, hk, hS', hacc⟩ := y
      exact fin h' tk acc' c' hk hS' hacc
  · obtain ⟨_, _, _, _, e', _⟩ := x
    cases e'
theorem col_list {l : Addr} {vs : List Value} (hl : s.heap.IsList l vs.toArray) (hn : vs.length ≤ 100) (R : List Value → Shared → Prop) (E' : Value → Shared → Prop) (k : ∀ h' tk us, us = vs → s.heap.StaysIn h' → R us { s with heap := h', toks := tk }) : wpAny (model prog w) A (collect (.ref l)) R E' s := by
  refine collect_list hl (k _ s.toks _ rfl fun b o e => ?_) (by rw [sizeLine_eq]; omega)
  rw [Heap.get?_update_ne _ _ _ _ (Nat.ne_of_lt (Heap.lt_size e))]
  exact Heap.get?_push_of_some _ e
end
section
variable {prog : Program} {w : World} {A : Around} {E : Value → Shared → Prop} {s : Shared} {g : Heap} {L : Addr} {m : Str → Option Value} {news : List (Addr × Obj)} {vs : List Value} {n : Nat} {f T : Value} {KO : Nat → Value → List (Addr × Obj) → Prop} {r : Nat → Nat → Bool}
theorem sortK_tree {a : Addr} {e0 : Nat} {P : PySem.Fin → Shared → Prop} (hn : vs.length = n) (h2 : 2 ≤ n) (h64 : n < 64) (F : Fr g L s.heap m) (N : News g L s.heap news) (ho : s.heap.get? a = some (seqObj "list" vs.toArray e0)) (haL : a ≠ L) (ha0 : g.get? a = none) (hna : ∀ p ∈ news, p.1 ≠ a)
    (mk : KMk prog w A s g L m news vs f KO) (ty : ∀ i k os h, KO i k os → (∀ p ∈ news ++ os, h.get? p.1 = some p.2) → Looks (model prog w) h (typeOf k) T) (hT1 : (T != Value.type "tuple") = true) (hT2 : (T == T) = true)
    (lt : KLt prog w A s g L m news n KO r) (asks : asksOk n r (kas_sort n))
    (h : ∀ h' tk c, Fr g L h' m → News g L h' ((a, seqObj "list" (List.toArray ((kasEval r (kas_sort n)).toList.map fun i => vs.getD i .none)) c) :: news) → P (.done (.ret .none)) { s with heap := h', toks := tk }) :
    wpAny (model prog w) A (ksk_tree a f false) P E s := by
  have ha : a < s.heap.objs.size := Heap.lt_size ho
  have s1 := Heap.SameBut.update s.heap a (Obj.mapSeq fun _ => (#[] : Array Value))
  obtain ⟨e1, ho1⟩ : ∃ e1, (s.heap.update a (Obj.mapSeq fun _ => (#[] : Array Value))).get? a = some (seqObj "list" #[] e1) := ⟨_, get?_update_seq ho fun _ => #[]⟩
  have F1 := ksk_fr F s1 haL ha0
  have N1 := ksk_news N s1 hna
  have hkS : ((s.heap.update a (Obj.mapSeq fun _ => (#[] : Array Value))).push (seqObj "tuple" vs.toArray 0)).objs.size = s.heap.objs.size + 1 := by rw [size_push', Heap.size_update]
  have hLk : L < ((s.heap.update a (Obj.mapSeq fun _ => (#[] : Array Value))).push (seqObj "tuple" vs.toArray 0)).objs.size := (F1.push _).ns.lt
  unfold ksk_tree
  refine wpAny_bind (listItems_at ho rfl ?_)
  refine wpAny_bind (listUpdate_at ho rfl ?_ (by rw [List.size_toArray, sizeLine_eq]; omega) (Nat.zero_le _))
  refine wpAny_bind (seqEpoch_at ho1 rfl ?_)
  refine wpAny_bind (wpAny_newTuple ?_ (by show vs.length ≤ _; rw [sizeLine_eq]; omega))
  refine wpAny_bind (wpAny_newList ?_ (Nat.zero_le _))
  refine wpAny_holding ?_
  refine sortK_rest (s := { s with heap := ((s.heap.update a (Obj.mapSeq fun _ => (#[] : Array Value))).push (seqObj "tuple" vs.toArray 0)).push (seqObj "list" #[] 0) }) (kS := ((s.heap.update a (Obj.mapSeq fun _ => (#[] : Array Value))).push (seqObj "tuple" vs.toArray 0)).objs.size)
    hn h2 h64 ((F1.push _).push _) (fun p hp => ?_) (by rw [hkS]; exact Nat.ne_of_gt (Nat.lt_succ_of_lt ha)) (fun p hp => by rw [hkS]; exact Nat.ne_of_lt (Nat.lt_succ_of_lt (Heap.lt_size (N p hp).1))) hna mk ty hT1 hT2 lt asks h
  rcases List.mem_append.mp hp with hp | hp
  · exact ⟨Heap.get?_push_of_some _ (Heap.get?_push_of_some _ (N1 p hp).1), (N1 p hp).2⟩
  · rw [List.nil_append] at hp
    rcases List.mem_cons.mp hp with rfl | hp
    · exact ⟨Heap.get?_push_size _ rfl, Nat.ne_of_gt hLk, Heap.get?_none_of_le (Nat.le_trans F.above (Nat.le_of_lt hLk))⟩
    · rw [List.mem_singleton.mp hp]
      exact ⟨Heap.get?_push_of_some _ (Heap.get?_push_of_some _ ho1), haL, ha0⟩
theorem sortK {src : Value} {q : Addr} {Q : Value → Shared → Prop} (VS : List Value → Prop) (KO : List Value → Nat → Value → List (Addr × Obj) → Prop) (hn : ∀ vs, VS vs → vs.length = n) (h2 : 2 ≤ n) (h64 : n < 64) (F : Fr g L s.heap m) (N : News g L s.heap news)
    (hcol : ∀ (R : List Value → Shared → Prop) E', (∀ h' tk vs, VS vs → s.heap.StaysIn h' → R vs { s with heap := h', toks := tk }) → wpAny (model prog w) A.in1 (collect src) R E' s)
    (mk : ∀ vs, VS vs → KMk prog w A.in1.in1 s g L m news vs (.ref q) (KO vs)) (ty : ∀ vs, VS vs → ∀ i k os h, KO vs i k os → (∀ p ∈ news ++ os, h.get? p.1 = some p.2) → Looks (model prog w) h (typeOf k) T) (hT1 : (T != Value.type "tuple") = true) (hT2 : (T == T) = true)
    (lt : ∀ vs, VS vs → KLt prog w A.in1.in1 s g L m news n (KO vs) r) (asks : asksOk n r (kas_sort n))
    (h : ∀ vs, VS vs → ∀ D h' tk c, Fr g L h' m → News g L h' ((D, W.listOf (List.toArray ((kasEval r (kas_sort n)).toList.map fun i => vs.getD i .none)) c) :: news) → Q (.ref D) { s with heap := h', toks := tk }) :
    wpAny (model prog w) A (call (.builtin "sorted") [src] [(Str.ofString "key", .ref q)]) Q E s := by
  refine call_function_entry_kw kind_sorted plain_sorted entry_sorted (ksk_s1 _ _) ?_
  unfold Builtin.«sorted»
  refine wpAny_bind (m := checkCount "sorted" 1 1 _) (wpAny_pure ?_)
  refine wpAny_bind (hcol _ _ fun h₁ tk₁ vs hvs up => ?_)
  have hn := hn vs hvs
  refine wpAny_bind (wpAny_newList ?_ (by rw [sizeLine_eq]; omega))
  have F1 : Fr g L (h₁.push (seqObj "list" vs.toArray 0)) m := (F.keeps up).push _
  have N1 : News g L (h₁.push (seqObj "list" vs.toArray 0)) news := N.grown fun b o e => Heap.get?_push_of_some _ (up b o e)
  have hoL : (h₁.push (seqObj "list" vs.toArray 0)).get? h₁.objs.size = some (seqObj "list" vs.toArray 0) := Heap.get?_push_size _ rfl
  have hL : L < h₁.objs.size := (F.keeps up).ns.lt
  show wpAny _ _ _ _ _ { s with heap := h₁.push (seqObj "list" vs.toArray 0), toks := tk₁ }
  refine wpAny_bind (wpAny_holding (wpAny_call_entry_kw slot_list_sort ⟨_, hoL, rfl⟩ entry_list_sort ?body (ksk_l1 _ _)))
  case body =>
    show wpAny (model prog w) A.in1.in1 (Builtin.«list.sort» ⟨[.ref h₁.objs.size], [(Str.ofString "key", .ref q)]⟩) _ _ _
    rw [ksk_t1]
    refine sortK_tree (s := { s with heap := h₁.push (seqObj "list" vs.toArray 0), toks := tk₁ }) hn h2 h64 F1 N1 hoL (Nat.ne_of_gt hL) (Heap.get?_none_of_le (Nat.le_trans F.above (Nat.le_of_lt hL))) (fun p hp => Nat.ne_of_lt (Heap.lt_size (up _ _ (N p hp).1))) (mk vs hvs) (ty vs hvs) hT1 hT2 (lt vs hvs) asks fun h' tk c F' N' => ⟨_, rfl, ?_⟩
    exact wpAny_pure ⟨_, rfl, h vs hvs _ h' tk c F' N'⟩
end
end Mine
end
section
open PySem PySem.W PySem.Calls PyProof.Rows
set_option Elab.async false
set_option maxRecDepth 100000
set_option maxHeartbeats 4000000
namespace Mine
noncomputable def leF (fs : List (Nat × Nat × Bool)) (x y : Nat) : Bool := fs.any fun q => bif q.2.2 then q.1 == x && q.2.1 == y else q.2.1 == x && q.1 == y
noncomputable def reachF (n : Nat) (fs : List (Nat × Nat × Bool)) : Nat → Nat → Nat → Bool
  | 0, x, y => leF fs x y
  | f + 1, x, y => leF fs x y || (List.range n).any fun z => leF fs x z && reachF n fs f z y
noncomputable abbrev reach (n : Nat) (fs : List (Nat × Nat × Bool)) (x y : Nat) : Bool := reachF n fs 3 x y
noncomputable def adjOk (n : Nat) (fs : List (Nat × Nat × Bool)) : List Nat → Bool
  | [] => true
  | x :: r => (match r with | [] => true | y :: _ => reach n fs x y) && adjOk n fs r
noncomputable def permOk (n : Nat) (l : List Nat) : Bool := l.length == n && (List.range n).all fun i => l.contains i
noncomputable def kchk (n : Nat) : KasT (Array Nat) → List (Nat × Nat × Bool) → Bool
  | .ret p, fs => permOk n p.toList && adjOk n fs p.toList
  | .ask i j k, fs => decide (i < n) && (decide (j < n) && ((reach n fs j i || kchk n (k true) ((i, j, true) :: fs)) && (fs.contains (i, j, true) || kchk n (k false) ((i, j, false) :: fs))))
theorem kchk5 : kchk 5 (kas_sort 5) [] = true := by decide +kernel
noncomputable def factsOk (key : Nat → Int) (fs : List (Nat × Nat × Bool)) : Prop := ∀ q ∈ fs, decide (key q.1 < key q.2.1) = q.2.2
theorem leF_le {key : Nat → Int} {fs : List (Nat × Nat × Bool)} (h : factsOk key fs) {x y : Nat} (e : leF fs x y = true) : key x ≤ key y := by
  obtain ⟨⟨i, j, b⟩, hq, e⟩ := List.any_eq_true.mp e
  have := h _ hq
  cases b with
  | true =>
    simp only [cond_true, Bool.and_eq_true, beq_iff_eq] at e this
    obtain ⟨rfl, rfl⟩ := e
    have := of_decide_eq_true this
    omega
  | false =>
    simp only [cond_false, Bool.and_eq_true, beq_iff_eq] at e this
    obtain ⟨rfl, rfl⟩ := e
    have := of_decide_eq_false this
    omega
theorem reach_le {key : Nat → Int} {n : Nat} {fs : List (Nat × Nat × Bool)} (h : factsOk key fs) : ∀ {f : Nat} {x y : Nat}, reachF n fs f x y = true → key x ≤ key y
  | 0, x, y, e => leF_le h e
  | f + 1, x, y, e => by
    rw [reachF, Bool.or_eq_true] at e
    rcases e with e | e
    · exact leF_le h e
    · obtain ⟨z, _, e⟩ := List.any_eq_true.mp e
      rw [Bool.and_eq_true] at e
      exact Int.le_trans (leF_le h e.1) (reach_le h e.2)
theorem adjOk_le {key : Nat → Int} {n : Nat} {fs : List (Nat × Nat × Bool)} (h : factsOk key fs) : ∀ (l : List Nat), adjOk n fs l = true → l.Pairwise fun x y => key x ≤ key y
  | [], _ => .nil
  | [x], _ => List.pairwise_singleton _ _
  | x :: y :: r, e => by
    rw [adjOk, Bool.and_eq_true] at e
    have ih := adjOk_le h (y :: r) e.2
    have e1 := reach_le h e.1
    refine List.pairwise_cons.mpr ⟨fun z hz => ?_, ih⟩
    rcases List.mem_cons.mp hz with rfl | hz
    · exact e1
    · exact Int.le_trans e1 ((List.pairwise_cons.mp ih).1 z hz)
theorem kchk_ok {key : Nat → Int} {n : Nat} : ∀ (t : KasT (Array Nat)) (fs : List (Nat × Nat × Bool)), factsOk key fs → kchk n t fs = true →
    asksOk n (fun i j => decide (key i < key j)) t ∧ permOk n (kasEval (fun i j => decide (key i < key j)) t).toList = true ∧ (kasEval (fun i j => decide (key i < key j)) t).toList.Pairwise fun x y => key x ≤ key y
  | .ret p, fs, h, e => by
    rw [kchk, Bool.and_eq_true] at e
    exact ⟨trivial, e.1, adjOk_le h _ e.2⟩
  | .ask i j k, fs, h, e => by
    rw [kchk] at e
    simp only [Bool.and_eq_true, decide_eq_true_eq, Bool.or_eq_true] at e
    obtain ⟨h1, h2, h3, h4⟩ := e
    cases q : decide (key i < key j) with
    | true =>
      have h5 := h3.resolve_left fun hc => by
        have := reach_le h hc
        have := of_decide_eq_true q
        omega
      have ih := kchk_ok (key := key) (k true) _ (fun p hp => by
        rcases List.mem_cons.mp hp with rfl | hp
        · exact q
        · exact h p hp) h5
      rw [asksOk, kasEval]
      simp only [q]
      exact ⟨⟨h1, h2, ih.1⟩, ih.2⟩
    | false =>
      have h5 := h4.resolve_left fun hc => by
        have := h _ (List.contains_iff_mem.mp hc)
        simp only at this
        rw [q] at this; cases this
      have ih := kchk_ok (key := key) (k false) _ (fun p hp => by
        rcases List.mem_cons.mp hp with rfl | hp
        · exact q
        · exact h p hp) h5
      rw [asksOk, kasEval]
      simp only [q]
      exact ⟨⟨h1, h2, ih.1⟩, ih.2⟩
theorem perm_of_subset : ∀ (a l : List Nat), a.Nodup → a ⊆ l → l.length ≤ a.length → l.Perm a
  | [], l, _, _, hl => by
    have : l = [] := List.eq_nil_of_length_eq_zero (by simpa using hl)
    rw [this]
  | x :: a, l, hn, hs, hl => by
    have hx : x ∈ l := hs (.head _)
    rw [List.nodup_cons] at hn
    have p := List.perm_cons_erase hx
    refine p.trans (.cons _ (perm_of_subset a _ hn.2 (fun y hy => ?_) ?_))
    · exact (List.mem_erase_of_ne (by intro e; subst e; exact hn.1 hy)).mpr (hs (.tail _ hy))
    · rw [List.length_erase_of_mem hx]; simp at hl; omega
theorem permOk_perm {n : Nat} {l : List Nat} (h : permOk n l = true) : l.Perm (List.range n) := by
  unfold permOk at h
  rw [Bool.and_eq_true, beq_iff_eq] at h
  exact perm_of_subset _ _ List.nodup_range (fun i hi => List.contains_iff_mem.mp (List.all_eq_true.mp h.2 i hi)) (by rw [List.length_range]; omega)
theorem sort5 (key : Nat → Int) : ∃ l : List Nat, (kasEval (fun i j => decide (key i < key j)) (kas_sort 5)).toList = l ∧ asksOk 5 (fun i j => decide (key i < key j)) (kas_sort 5) ∧ l.Perm (List.range 5) ∧ l.Pairwise fun x y => key x ≤ key y := by
  have h := kchk_ok (key := key) (kas_sort 5) [] (fun _ h => nomatch h) kchk5
  exact ⟨_, rfl, h.1, permOk_perm h.2.1, h.2.2⟩
end Mine
end
section
open PySem PySem.W PySem.W.X PySem.Calls PyProof.Rows
set_option Elab.async false
set_option maxRecDepth 100000
set_option maxHeartbeats 4000000
set_option linter.unusedVariables false
set_option linter.unusedSimpArgs false
namespace Mine
theorem Tn.frs {fs : List Addr} {g h h' : Heap} {L : Addr} {m : Str → Option Value} (T : Tn fs h h') (F : Fr g L h m) (hg : ∀ b ∈ fs, g.get? b = none) : Fr g L h' m := by
  refine ⟨?_, fun b o e => (T b o (F.keep b o e)).1 (fun hm => by rw [hg b hm] at e; cases e), F.above⟩
  obtain ⟨o, es, ep, ho, hd, r⟩ := F.ns
  by_cases hL : L ∈ fs
  · obtain ⟨sl, q⟩ := (T L o ho).2 hL
    exact ⟨_, es, ep, q, hd, r⟩
  · exact ⟨o, es, ep, (T L o ho).1 hL, hd, r⟩
theorem Tn.frames {fs : List Addr} {h h' base : Heap} {l : List Env} (T : Tn fs h h') (x : h.FunFrames base l) : h'.FunFrames base l :=
  Heap.FunFrames.of_keeps (fun b o e _ => by
    by_cases hb : b ∈ fs
    · obtain ⟨sl, q⟩ := (T b o e).2 hb
      exact ⟨_, q, rfl⟩
    · exact ⟨o, (T b o e).1 hb, rfl⟩) x
theorem Tn.stays {fs : List Addr} {h h' h'' : Heap} (T : Tn fs h h') (st : h'.StaysIn h'') : Tn fs h h'' := fun b o e => ⟨fun hb => st _ _ ((T b o e).1 hb), fun hb => by
  obtain ⟨sl, q⟩ := (T b o e).2 hb
  exact ⟨sl, st _ _ q⟩⟩
theorem Tn.less {L1 : Addr} {fs : List Addr} {h h1 h' : Heap} (T : Tn (L1 :: fs) h1 h') (st : h.StaysIn h1) (hn : h.get? L1 = none) : Tn fs h h' := fun b o e => by
  have hb1 : b ≠ L1 := fun q => by rw [q, hn] at e; cases e
  refine ⟨fun hb => (T b o (st _ _ e)).1 (fun hm => ?_), fun hb => (T b o (st _ _ e)).2 (.tail _ hb)⟩
  rcases List.mem_cons.mp hm with q | q
  · exact hb1 q
  · exact hb q
theorem Tn.of_stays {fs : List Addr} {h h' : Heap} (st : h.StaysIn h') : Tn fs h h' := fun b o e => ⟨fun _ => st _ _ e, fun _ => ⟨o.slots, st _ _ e⟩⟩
theorem kts3 {e0 e1 e2 : Env} {L0 L1 L2 : Addr} {h g : Heap} (T : KtsTurn (List.filterMap (fun x : Env => x.frame) [e0, e1, e2]) h g) (h0 : e0.frame = some L0) (h1 : e1.frame = some L1) (h2 : e2.frame = some L2) : KtsTurn [L0, L1, L2] h g := by
  rw [List.filterMap_cons_some h0, List.filterMap_cons_some h1, List.filterMap_cons_some h2] at T
  exact T
theorem sgn_neg {n : Int} : sgn n < 0 ↔ n < 0 := by unfold sgn; split <;> (try split) <;> omega
section
variable {w : World} {A : Around} {E : Value → Shared → Prop}
theorem bool_and {b : Bool} {s : Shared} {Q : Bool → Shared → Prop} {M : Model} (h : Q b s) : wpAny M A (truthy (.bool b)) Q E s := wpAny_truthy_bool h
theorem lt_inst {s : Shared} {F x y i j : Addr} {di dj : Option Addr} {env : List Env} {kd : Nat → Addr} {tc : Nat} {n : Int} {L : Addr} {fd : FuncData}
    (KX : (Mine.hd.heap_1 w.params).In s.heap) (hdp : A.depth + 100 < recursionLimit) (hun : A.units + 200 < cLine) (hfr : A.frames = some env) (hkd : Offs kd) (hklow : 120 < kd 0)
    (CK : ∀ p ∈ ckD.1 w tc F kd, s.heap.get? p.1 = some p.2) (hi : s.heap.get? i = some { cls := .ref (kd 60), dict := di, slots := #[some (.ref x)] }) (hj : s.heap.get? j = some { cls := .ref (kd 60), dict := dj, slots := #[some (.ref y)] })
    (hF : s.heap.get? F = some { cls := .type "function", data := .func fd })
    (HF : ∀ (A' : Around) (R : Result → Shared → Prop) (h : Heap) (t : Nat) (e1 : Env) (L1 : Addr) (o1 : Obj), A'.depth < A.depth + 50 → A'.units < A.units + 100 → A'.frames = some (e1 :: env) → A'.handled = A.handled → e1.scope.kind ≠ .module → e1.frame = some L1 → h.get? L1 = some o1 → (∀ vs, o1.data ≠ .fields vs) → s.heap.get? L1 = none → s.heap.StaysIn h → (∀ tok h' tk, Tn [L1, L] h h' → R (.ok (.ret (.int n tok))) { s with heap := h', toks := tk }) → codeAny (model PR w) A' (.call (.ref F) ⟨[.ref x, .ref y], []⟩) R { s with heap := h, toks := t }) :
    wpAny (model PR w) A (keyLt' oneType' (.ref i) (.ref j)) (fun c s' => c = decide (n < 0) ∧ ∃ h' tk', s' = { s with heap := h', toks := tk' } ∧ Tn [L] s.heap h') E s := by
  rw [keyLt'_oneType, oneLt'_eq]
  simp only [if_true]
  refine wpAny_bind (wpAny_cRoomFor (by omega) ?_)
  have hlow : 120 < s.heap.objs.size := by
    have := KX 120 _ (show (Mine.hd.heap_1 w.params).lookup 120 = some _ by with_unfolding_all rfl)
    exact Heap.lt_size this
  refine wpAny_bind (ltK (ad := fun k => s.heap.objs.size + k) KX hdp hun hfr (fun k => rfl) hlow rfl hkd hklow CK hi hj hF (P := fun h L1 h' => Tn [L1, L] h h') HF ?_)
  intro L1 h h' h'' tk st hn T st2
  refine wpAny_truthy_bool ⟨rfl, h'', tk, rfl, (Tn.less T st hn).stays st2⟩
noncomputable def pickD (o : Obj) (x : Str) : Option Value := match o.data with | .dict es _ => nsFind es x | _ => none
theorem pick3 (P : Params) : (((Mine.hd.heap_1 P).lookup 3).map fun o => pickD o (Str.ofString "__builtins__")) = some (some (.ref 4)) := by kernel_rfl
theorem builtins_mod {h : Heap} {p : Program} {loose : List Str} {mean : ExcName → Option Value} {mg mb : Str → Option Value} (X : (Mine.hd.heap_1 w.params).In h) (T : Top p loose mean mg mb h) : ∃ sl4, h.get? 4 = some ⟨.type "module", some 0, .plain, sl4⟩ := by
  obtain ⟨bm, ob, b1, b2, b3, b4, b5, b6⟩ := T.bmain
  obtain ⟨o, es, ep, ho, hd, _, hns⟩ := T.g
  rw [← hns] at b1
  have q := pick3 w.params
  cases hL : (Mine.hd.heap_1 w.params).lookup 3 with
  | none => rw [hL] at q; cases q
  | some o' =>
    rw [hL] at q
    have eo : o' = o := Option.some.inj ((X 3 _ hL).symm.trans ho)
    subst eo
    have q2 : pickD o' (Str.ofString "__builtins__") = some (.ref 4) := Option.some.inj q
    unfold pickD at q2
    rw [hd] at q2
    have e5 := Option.some.inj (q2.symm.trans b1)
    cases e5
    obtain ⟨c, d, dt, sl⟩ := ob
    cases b4; cases b5; cases b6
    exact ⟨sl, b3⟩
theorem ck_chg (t : Nat) (F : Addr) (ad : Nat → Addr) : ∃ as, ckD.2.1 w t F ad = [(30, tabObj as)] := ⟨_, by with_unfolding_all rfl⟩
theorem ck_spec {s : Shared} {F : Addr} {env : List Env} {p : Program} {loose : List Str} {mean : ExcName → Option Value} {mg mb : Str → Option Value} {Q : Value → Shared → Prop} (X : (Mine.hd.heap_1 w.params).In s.heap) (T : Top p loose mean mg mb s.heap) (C3 : CodeHd s.heap 34 30) (h30 : s.heap.get? 30 = some (tabObj #[]))
    (hdp : A.depth + 100 < recursionLimit) (hun : A.units + 200 < cLine) (hfr : A.frames = some env)
    (k : ∀ h' tk kd tc, Offs kd → 120 < kd 0 → (∀ p ∈ ckD.1 w tc F kd, h'.get? p.1 = some p.2 ∧ s.heap.get? p.1 = none) → Ex [30] s.heap h' → (∃ as, h'.get? 30 = some (tabObj as)) → Q (.ref (kd 60)) { s with heap := h', toks := tk }) :
    wpAny (model PR w) A (call (.ref 35) [.ref F]) Q E s := by
  have hlow : 120 < s.heap.objs.size := by
    have := X 120 _ (show (Mine.hd.heap_1 w.params).lookup 120 = some _ by with_unfolding_all rfl)
    exact Heap.lt_size this
  obtain ⟨sl4, M4⟩ := builtins_mod X T
  obtain ⟨o, es, ep, ho, hd, _, hns⟩ := T.b
  obtain ⟨c0, d0, dt, sl0⟩ := o
  have hd' : dt = .dict es ep := hd
  subst hd'
  refine ckD.2.2 w s.heap s.gens s.drawn s.toks s.os F Q E A c0 d0 es ep sl0 env (fun k => s.heap.objs.size + k) sl4 X hdp hun hfr (fun k => rfl) hlow rfl (C3.tab h30) h30 M4 ho ?_ ?_ ?_
  · rw [hns, T.builtins _ (by decide)]; kernel_rfl
  · rw [hns, T.builtins _ (by decide)]; kernel_rfl
  · intro h' tk D _
    obtain ⟨as, e⟩ := ck_chg (w := w) s.toks F (fun k => s.heap.objs.size + k)
    refine k h' tk (fun k => s.heap.objs.size + k) s.toks (fun k => rfl) hlow (fun p hp => D.nw p hp) (fun b o hb q => D.keep b o q ?_) ⟨as, ?_⟩
    · rw [e, Bool.or_eq_true]
      refine .inr ?_
      simp only [away, List.all_cons, List.all_nil, Bool.and_true, Bool.not_eq_true']
      cases z : Nat.beq 30 b with
      | false => rfl
      | true => exact absurd (List.mem_singleton.mpr (Nat.eq_of_beq_eq_true z).symm) hb
    · have := (D.ch (30, tabObj as) (by rw [e]; exact .head _)).1
      exact this
end
end Mine
end
section
open PySem PySem.W PySem.Calls PyProof.Rows
set_option Elab.async false
set_option maxRecDepth 100000
set_option maxHeartbeats 4000000
set_option linter.unusedVariables false
set_option linter.unusedSimpArgs false
namespace Mine

theorem law_E {w : World} {A : Around} {base g : Heap} {p : Program} {loose : List Str} {mean : ExcName → Option Value} {mg mb : Str → Option Value} {L' : Addr} {h : Heap} {gs : Array GenState} {dr : Drawn} {tk : Nat} {os : OsState} {Q : Flow → Shared → Prop} {mx : Str → Option Value} {Ds Dd lw : Addr} {ks kd : Nat} {rs rowsS rowsD : List (Addr × Obj)} {ps : List Int} (BG : Below A base [] g) (XB : (KK w).In base) (TB : Top p loose mean mg mb base) (hd : A.depth < recursionLimit) (hu : A.units + 20 < cLine) (hdp : A.depth + 500 < recursionLimit) (hu2 : A.units + 500 < cLine) (hA : A.handled = none)
   (C1 : CodeHd base 109 105) (C3 : CodeHd base 34 30) (C4 : CodeHd base 119 117) (hb : ∀ P ∈ [105, 74, 30, 117], base.get? P = none) (hgP : ∀ P ∈ [105, 74, 30, 117], g.get? P = none) (lP' : ∀ P ∈ [105, 74, 30, 117], P < L')
   (F : Fr g L' h mx) (hsets : mx (Str.ofString "sets") = some (.ref Ds)) (hnc : ∀ p ∈ rs, NC p) (hDs : (Ds, W.listOf (refs rowsS).toArray ks) ∈ rs) (hrS : ∀ p ∈ rowsS, p ∈ rs) (hDd : (Dd, W.listOf (refs rowsD).toArray kd) ∈ rs) (hrD : ∀ p ∈ rowsD, p ∈ rs)
   (hlS : LR rowsS (ps.map dueI)) (hlD : LR rowsD (ps.map dueI)) (hps : ps.length = 5) (hwi : WaysIn rs lw) {c1 c2 c3 c4 c5 c6 : Obj} {v2 v5 v6 : Option Value} {Dw : Addr} {nw : Nat} {vw : List Value} (e1 : c1.data = .cell (some (.ref Dw))) (e2 : c2.data = .cell v2) (e3 : c3.data = .cell (some (.ref lw))) (e4 : c4.data = .cell (some (.ref Dd))) (e5 : c5.data = .cell v5) (e6 : c6.data = .cell v6) {a74 a105 a117 : Array Value}
   (ha117 : a117 = #[] ∨ ∃ c', a117 = #[rawInt 137, rawInt 21, .ref c'])
   (hDw : (Dw, W.listOf (List.toArray vw) nw) ∈ rs) (ipw : IntsAre vw (ps.map fun n => pw (dueI n)))
   (N : News g L' h ([(L' + 1 + 1 + 1 + 1 + 1 + 1, c1), (L' + 1 + 1 + 1 + 1 + 1, c2), (L' + 1 + 1 + 1 + 1, c3), (L' + 1 + 1 + 1, c4), (L' + 1 + 1, c5), (L' + 1, c6), (105, tabObj a105), (74, tabObj a74), (30, tabObj #[]), (117, tabObj a117)] ++ rs))
   (k : ∀ h' tk', g.StaysIn h' → (∀ P ∈ [105, 74, 30, 117], ∃ ps, h'.get? P = some (tabObj ps)) → Q (.ret (.bool true)) ⟨h', gs, dr, tk', os⟩) :
   wpAny (model PR w) (A.deeper (lawEnv w L')) (execs (lawR w 10) (lawEnv w L')) Q (fun _ _ => False) ⟨h, gs, dr, tk, os⟩ := by
  unfold lawEnv lawR KK PR at *
  revert XB; k_fill; intro XB
  have XG := XB.keeps BG.stays
  have TG := TB.keeps BG.stays
  k_dflt (refine' lawCut ?k6 ?_; (case k6 => k_is); k_whole)
  dsimp only [List.drop]
  have l0 : (105 : Nat) < L' ∧ (74 : Nat) < L' ∧ (30 : Nat) < L' ∧ (117 : Nat) < L' := ⟨lP' _ (by k_mem), lP' _ (by k_mem), lP' _ (by k_mem), lP' _ (by k_mem)⟩

  have FS := Fr.withN (x := Str.ofString "sets") F hsets
  clear F
  repeat ((fail_if_success (with_reducible show wpAny _ _ (eval (Expr.Lambda _ _ _ _) _) _ _ _)); (first | (k_unfold; (try dsimp only)) | walk1 | (dsimp only; walk1)))
  rename Fr _ _ _ _ => F₁
  have ht117 : TriplesOk a117.toList := by
    rcases ha117 with rfl | ⟨c', rfl⟩
    · trivial
    · simp [TriplesOk, rawInt]
  have hn117 : ∀ (l c e f : Nat), l ≠ 137 → codeAmong ⟨l, c, e, f⟩ a117.toList = none := by
    intro l c e f hl
    rcases ha117 with rfl | ⟨c', rfl⟩
    · rfl
    · simp [codeAmong, rawInt]; omega
  refine kla_eval rfl ?_
  k_dflt (refine' lam_new F₁ TG (C4.keeps BG.stays) (hgP _ (by k_mem)) rfl rfl (N _ (.tail _ (.tail _ (.tail _ (.tail _ (.tail _ (.tail _ (.tail _ (.tail _ (.tail _ (.head _))))))))))).1 ht117 (hn117 _ _ _ _ (by decide)) rfl ?_; k_whole)
  intro f c' ctv h4 tk4 ex4 ht4 hf4 fr4 frc4 cr4
  dsimp only at ex4 ht4 hf4 fr4 frc4 cr4
  obtain ⟨b117, hb117, ht4⟩ : ∃ b, a117 ++ #[rawInt _, rawInt _, .ref c'] = b ∧ h4.get? 117 = some (tabObj b) := ⟨_, rfl, ht4⟩
  have F₄ := Fr.exP F₁ ex4 (hgP _ (by k_mem)) (Nat.ne_of_gt l0.2.2.2)
  obtain ⟨c'', oc, vc, tkc, ec, hoc, hdc, hvc⟩ := id cr4
  cases ec
  obtain ⟨fo, hfo, hf4⟩ : ∃ fo, fo = kla_obj _ _ _ _ _ _ _ _ _ ∧ h4.get? f = some fo := ⟨_, rfl, hf4⟩
  have N9 : News g L' h ([(L' + 1 + 1 + 1 + 1 + 1 + 1, c1), (L' + 1 + 1 + 1 + 1 + 1, c2), (L' + 1 + 1 + 1 + 1, c3), (L' + 1 + 1 + 1, c4), (L' + 1 + 1, c5), (L' + 1, c6), (105, tabObj a105), (74, tabObj a74), (30, tabObj #[])] ++ (117, tabObj a117) :: rs) := N
  have off1 : ∀ p ∈ [(L' + 1 + 1 + 1 + 1 + 1 + 1, c1), (L' + 1 + 1 + 1 + 1 + 1, c2), (L' + 1 + 1 + 1 + 1, c3), (L' + 1 + 1 + 1, c4), (L' + 1 + 1, c5), (L' + 1, c6), (105, tabObj a105), (74, tabObj a74), (30, tabObj #[])] ++ rs, p.1 ≠ 117 := off_any (N9 _ (List.mem_append_right _ (.head _))).1 (fun p hp => (N9 p ((List.mem_append.mp hp).elim (fun h => List.mem_append_left _ h) fun h => List.mem_append_right _ (.tail _ h))).1) (by
    intro p hp
    simp only [List.cons_append, List.nil_append, List.append_nil, List.mem_cons] at hp
    rcases hp with rfl | rfl | rfl | rfl | rfl | rfl | rfl | rfl | rfl | hp
    all_goals first | exact .inr (hnc _ hp) | (refine .inl ?_; dsimp only; omega))
  have N₄ : News g L' h4 ([_, _, _, _, _, _, _, _, _, (117, _)] ++ ([(f, fo), (c', oc)] ++ rs)) := News.put (a := [_, _, _, _, _, _, _, _, _, _]) (News.tabStep (b := rs) N9 ex4 ht4 off1) F₁ (fun p hp => by
    rcases List.mem_cons.mp hp with rfl | hp
    · exact ⟨hf4, fr4⟩
    · rw [List.mem_singleton.mp hp]; exact ⟨hoc, frc4⟩)
  have hh30 := (N _ (.tail _ (.tail _ (.tail _ (.tail _ (.tail _ (.tail _ (.tail _ (.tail _ (.head _)))))))))).1
  clear N N9
  simp only [List.cons_append, List.nil_append] at N₄
  repeat ((fail_if_success (with_reducible show wpAny _ _ (call (Value.ref 35) _) _ _ _)); (first | (k_unfold; (try dsimp only)) | walk1 | (dsimp only; walk1)))
  have hfo2 : ∃ fd, fo = { cls := .type "function", data := .func fd } := ⟨_, hfo⟩
  obtain ⟨fd, hfd⟩ := hfo2
  have ncf : NC (f, fo) := by
    rw [hfd]
    exact ⟨(fun v e => nomatch e), (fun e => nomatch e)⟩
  have N8 : News g L' h4 ([(L' + 1 + 1 + 1 + 1 + 1 + 1, c1), (L' + 1 + 1 + 1 + 1 + 1, c2), (L' + 1 + 1 + 1 + 1, c3), (L' + 1 + 1 + 1, c4), (L' + 1 + 1, c5), (L' + 1, c6), (105, tabObj a105), (74, tabObj a74)] ++ (30, tabObj #[]) :: ((117, tabObj b117) :: (f, fo) :: (c', oc) :: rs)) := N₄
  have off2 : ∀ p ∈ [(L' + 1 + 1 + 1 + 1 + 1 + 1, c1), (L' + 1 + 1 + 1 + 1 + 1, c2), (L' + 1 + 1 + 1 + 1, c3), (L' + 1 + 1 + 1, c4), (L' + 1 + 1, c5), (L' + 1, c6), (105, tabObj a105), (74, tabObj a74)] ++ ((117, tabObj b117) :: (f, fo) :: (c', oc) :: rs), p.1 ≠ 30 := off_any (N8 _ (List.mem_append_right _ (.head _))).1 (fun p hp => (N8 p ((List.mem_append.mp hp).elim (fun h => List.mem_append_left _ h) fun h => List.mem_append_right _ (.tail _ h))).1) (by
    intro p hp
    simp only [List.cons_append, List.nil_append, List.append_nil, List.mem_cons] at hp
    rcases hp with rfl | rfl | rfl | rfl | rfl | rfl | rfl | rfl | rfl | rfl | rfl | hp
    all_goals first | exact .inr (hnc _ hp) | exact .inr ncf | (refine .inl ?_; dsimp only; omega) | (refine .inl fun e => ?_; dsimp only at e; rw [e, hh30] at frc4; cases frc4))
  refine ck_spec (XG.keeps F₄.keep) (TG.keeps F₄.keep) ((C3.keeps BG.stays).keeps F₄.keep) (N8 _ (List.mem_append_right _ (.head _))).1 ?ck1 ?ck2 (Around.frames_deeper BG.stack) ?_
  case ck1 => show A.depth + 1 + 100 < _; omega
  case ck2 => show A.units + 3 + 200 < _; omega
  rintro h5 tk5 kd tc hkd hklow hCK ex5 ⟨a30, h30⟩
  have F₅ := Fr.exP F₄ ex5 (hgP _ (by k_mem)) (Nat.ne_of_gt l0.2.2.1)
  have N₅a := News.tabStep N8 ex5 h30 off2
  have N₅b : News g L' h5 ([(L' + 1 + 1 + 1 + 1 + 1 + 1, c1), (L' + 1 + 1 + 1 + 1 + 1, c2), (L' + 1 + 1 + 1 + 1, c3), (L' + 1 + 1 + 1, c4), (L' + 1 + 1, c5), (L' + 1, c6), (105, tabObj a105), (74, tabObj a74), (30, tabObj a30), (117, tabObj b117)] ++ ((f, fo) :: (c', oc) :: rs)) := N₅a
  have N₅ := News.put N₅b F₄ hCK
  clear N₅a N₅b
  clear N₄ N8 off1 off2 F₁
  simp only [List.cons_append, List.nil_append] at N₅
  repeat ((fail_if_success (with_reducible show wpAny _ _ (call (Value.builtin _) _ _) _ _ _)); (first | (k_unfold; (try dsimp only)) | walk1 | (dsimp only; walk1)))
  (with_unfolding_all show wpAny _ _ (call (Value.builtin "sorted") [Value.ref Ds] [(Str.ofString "key", Value.ref (kd 60))]) _ _ _)
  have hlen5 : (refs rowsS).length = 5 := by rw [List.length_map, hlS.1, List.length_map, hps]
  obtain ⟨lo, hlo, asks, hperm, hpwl⟩ := sort5 fun i => pw (dueI (ps.getD i 0))
  have hDs5 := (N₅ _ (.tail _ (.tail _ (.tail _ (.tail _ (.tail _ (.tail _ (.tail _ (.tail _ (.tail _ (.tail _ (List.mem_append_right _ (.tail _ (.tail _ hDs)))))))))))))).1
  refine sortK (n := 5) (r := fun i j => decide (pw (dueI (ps.getD i 0)) < pw (dueI (ps.getD j 0)))) (T := .ref (kd 60)) (fun us => us = refs rowsS)
    (fun us i kv os => ∃ a d r, kv = .ref a ∧ (refs rowsS)[i]? = some (.ref r) ∧ os = [(a, { cls := .ref (kd 60), dict := d, slots := #[some (.ref r)] })])
    (by rintro us rfl; exact hlen5) (by decide) (by decide) F₅ N₅ (col_list ⟨_, hDs5, rfl, _, rfl⟩ (by rw [hlen5]; decide)) ?mk ?ty rfl (by simp) ?lt asks ?_
  case mk =>
    rintro _ rfl i v hv h6 tk6 own F6 N6
    obtain ⟨r, kr, vr, n, rfl, hr, hn, ir⟩ := hlS.row hv
    have hx := (N6 (r, _) (List.mem_append_left _ (.tail _ (.tail _ (.tail _ (.tail _ (.tail _ (.tail _ (.tail _ (.tail _ (.tail _ (.tail _ (List.mem_append_right _ (.tail _ (.tail _ (hrS _ hr)))))))))))))))).1
    refine newK (ad := fun k => h6.objs.size + k) (XG.keeps F6.keep) ?n1 ?n2 (Around.frames_deeper BG.stack) (fun k => rfl) ?n3 rfl hkd hklow (fun p hp => (N6 p (List.mem_append_left _ (.tail _ (.tail _ (.tail _ (.tail _ (.tail _ (.tail _ (.tail _ (.tail _ (.tail _ (.tail _ (List.mem_append_left _ hp))))))))))))).1) hx ?_
    case n1 => show A.depth + 1 + 100 < _; omega
    case n2 => show A.units + 3 + 1 + 1 + 200 < _; omega
    case n3 => exact (XG.keeps F6.keep |> fun X => Heap.lt_size (X 120 _ (show (Mine.hd.heap_1 w.params).lookup 120 = some _ by with_unfolding_all rfl)))
    intro h' tk' st hinst hsz'
    refine ⟨h', tk', _, rfl, Tn.of_stays st, ?_, h6.objs.size + 1, some (h6.objs.size + 0), r, rfl, hv, rfl⟩
    intro p hp
    rw [List.mem_singleton.mp hp]
    exact ⟨hinst, Heap.get?_none_of_le (Nat.le_succ _)⟩
  case ty =>
    rintro _ rfl i kv os h6 ⟨a, d, r, rfl, hv, rfl⟩ hos
    exact (Looks.ld (hos _ (List.mem_append_right _ (.head _)))).andThen .now
  case lt =>
    rintro _ rfl i j ki kj oi oj h6 tk6 own hi hj ⟨a, da, ra, rfl, hra, rfl⟩ ⟨b, db, rb, rfl, hrb, rfl⟩ F6 N6 hoi hoj
    obtain ⟨ra', kra, va, na, ea, hra2, hna, ira⟩ := hlS.row hra
    cases ea
    obtain ⟨rb', krb, vb, nb, eb, hrb2, hnb, irb⟩ := hlS.row hrb
    cases eb
    have fa := due_facts na
    have fb := due_facts nb
    have ea : ps.getD i 0 = na := by rw [List.getD_eq_getElem?_getD, hna]; rfl
    have eb : ps.getD j 0 = nb := by rw [List.getD_eq_getElem?_getD, hnb]; rfl
    have hfg := (N6 (f, fo) (List.mem_append_left _ (.tail _ (.tail _ (.tail _ (.tail _ (.tail _ (.tail _ (.tail _ (.tail _ (.tail _ (.tail _ (List.mem_append_right _ (.head _)))))))))))))).1
    have hcg := (N6 (c', oc) (List.mem_append_left _ (.tail _ (.tail _ (.tail _ (.tail _ (.tail _ (.tail _ (.tail _ (.tail _ (.tail _ (.tail _ (List.mem_append_right _ (.tail _ (.head _))))))))))))))).1
    have hma := (N6 (ra, _) (List.mem_append_left _ (.tail _ (.tail _ (.tail _ (.tail _ (.tail _ (.tail _ (.tail _ (.tail _ (.tail _ (.tail _ (List.mem_append_right _ (.tail _ (.tail _ (hrS _ hra2)))))))))))))))).1
    have hmb := (N6 (rb, _) (List.mem_append_left _ (.tail _ (.tail _ (.tail _ (.tail _ (.tail _ (.tail _ (.tail _ (.tail _ (.tail _ (.tail _ (List.mem_append_right _ (.tail _ (.tail _ (hrS _ hrb2)))))))))))))))).1
    refine wpAny_mono (lt_inst (L := L') (n := sgn (pw (dueI na) - pw (dueI nb))) (XG.keeps F6.keep) ?n1 ?n2 (Around.frames_deeper BG.stack) hkd hklow (fun p hp => (N6 p (List.mem_append_left _ (.tail _ (.tail _ (.tail _ (.tail _ (.tail _ (.tail _ (.tail _ (.tail _ (.tail _ (.tail _ (List.mem_append_left _ hp))))))))))))).1)
      (N6 _ (List.mem_append_right _ (hoi _ (.head _)))).1 (N6 _ (List.mem_append_right _ (hoj _ (.head _)))).1 (hfd ▸ hfg) ?HF) ?_ fun _ _ e => e
    case n1 => show A.depth + 1 + 100 < _; omega
    case n2 => show A.units + 3 + 1 + 1 + 200 < _; omega
    case HF =>
      intro A' R h7 t7 e1 L1 o1 hd' hu' hfr' hA' hk1 hf1 ho1 hdd hn1 st kR
      have hd2 : A'.depth < A.depth + 1 + 50 := hd'
      have hu2' : A'.units < A.units + 3 + 1 + 1 + 100 := hu'
      have hA2 : A'.handled = none := hA'.trans hA
      have sg : g.StaysIn h7 := fun b o e => st _ _ (F6.keep b o e)
      have hbL1 : base.get? L1 = none := by
        cases q : base.get? L1 with
        | none => rfl
        | some o =>
          have z := F6.keep _ _ (BG.stays _ _ q)
          rw [hn1] at z
          exact nomatch z
      have B7 : Below A' base (e1 :: [_]) h7 := ⟨hfr', fun b o e => sg _ _ (BG.stays b o e), hk1, ⟨L1, o1, hf1, hbL1, ho1, hdd⟩, Tn.frames (fs := []) (Tn.of_stays st) (pushX BG F6 rfl rfl).frames⟩
      k_dflt (refine' enterL (TG.nolimit.keeps sg) (hfo ▸ st _ _ hfg) ⟨c', oc, vc, tkc, rfl, st _ _ hcg, hdc, hvc⟩ ?q1 ?q2 ?q3 ?_ ?q4 ?q5 ?q6 ?q7; (case q1 => omega); (case q2 => exact rfl); (case q3 => exact locs rfl); (case q4 => exact rfl); (case q5 => exact rfl); (case q6 => exact rfl); (case q7 => decide); k_whole; intro L2 h8 F8; (try dsimp only))
      have hL7 : L' < h7.objs.size := by
        obtain ⟨o, es, ep, ho, _⟩ := F6.ns
        exact Heap.lt_size (st _ _ ho)
      have F8g := Fr.ground F8 sg (Nat.le_trans F6.above (Nat.le_of_lt hL7))
      repeat ((fail_if_success (with_reducible show wpAny _ _ (call (Value.ref 21) _) _ _ _)); (first | (k_unfold; (try dsimp only)) | walk1 | (dsimp only; walk1)))
      have hma8 := F8.keep _ _ (st _ _ hma)
      have hmb8 := F8.keep _ _ (st _ _ hmb)
      refine sld (pushX B7 F8 rfl rfl) XB TB hA2 ?d1 ?d2 ⟨_, hma8, rfl, _, rfl⟩ ⟨_, hmb8, rfl, _, rfl⟩ ira irb (by omega) (by omega) fa.1 fb.1 ?_
      case d1 => show A'.depth + 1 < _; omega
      case d2 => show A'.units + 3 + 20 < _; omega
      intro g₁ h9 tk9 t a9 b9 va9 ub9 na9 nb9 T st9 ht ha hbb ia ib ft fa9 fb9
      have T := kts3 T (L0 := L2) (L2 := L') rfl hf1 rfl
      have T₂ := Tn.of T st9
      have gn : ∀ b ∈ [L2, L1, L'], g.get? b = none := by
        intro b hb
        rcases List.mem_cons.mp hb with rfl | hb
        · exact Heap.get?_none_of_le F8g.above
        · rcases List.mem_cons.mp hb with rfl | hb
          · cases q : g.get? b with
            | none => rfl
            | some o =>
              have z := F6.keep _ _ q
              rw [hn1] at z
              exact nomatch z
          · rw [List.mem_singleton.mp hb]
            exact Heap.get?_none_of_le F6.above
      have F9 := Tn.frs T₂ F8g gn
      have N9 : News g L2 h9 [(t, { cls := .type "tuple", data := .seq #[.ref a9, .ref b9] }), (a9, W.listOf va9.toArray na9), (b9, W.listOf ub9.toArray nb9)] := by
        intro q hq
        rcases List.mem_cons.mp hq with rfl | hq
        · exact ⟨ht, kts_fresh T F8g ft⟩
        · rcases List.mem_cons.mp hq with rfl | hq
          · exact ⟨ha, kts_fresh T F8g fa9⟩
          · rw [List.mem_singleton.mp hq]
            exact ⟨hbb, kts_fresh T F8g fb9⟩
      rw [sdiff_pfil fa.1 fb.1] at ia ib
      have lA : (pfil (dueI na) (dueI nb)).length ≤ 100 := Nat.le_trans (List.length_filter_le _ _) (by omega)
      have lB : (pfil (dueI nb) (dueI na)).length ≤ 100 := Nat.le_trans (List.length_filter_le _ _) (by omega)
      repeat ((fail_if_success (with_reducible show wpAny _ _ (call (Value.ref 91) _) _ _ _)); (first | (k_unfold; (try dsimp only)) | walk1 | (dsimp only; walk1)))
      refine cmp_spec (base := base) ⟨Around.frames_deeper hfr', fun b o e => F9.keep _ _ (BG.stays b o e), Tn.frames T₂ (pushX B7 F8 rfl rfl).frames⟩ XB TB ?m1 ?m2 ?m3 ?m4 ht ⟨_, ha, rfl, _, rfl⟩ ⟨_, hbb, rfl, _, rfl⟩ ia ib lA lB ?_
      case m1 => show A'.depth + 1 < _; omega
      case m2 => show A'.units + 3 + 20 < _; omega
      case m3 => show A'.depth + 1 + 200 < _; omega
      case m4 => show A'.units + 3 + 300 < _; omega
      intro h10 tk10 n10 u10 st10 en
      rw [cmp_sign fa.1 fb.1 fa.2.1 fb.2.1] at en
      subst en
      repeat ((fail_if_success (with_reducible show R _ _)); (first | (k_unfold; (try dsimp only)) | walk1 | (dsimp only; walk1)))
      exact kR _ _ _ (Tn.less (Tn.stays T₂ st10) F8.keep (Heap.get?_none_of_le F8.above))
    · rintro c s' ⟨rfl, h', tk', rfl, T⟩
      refine ⟨?_, h', tk', rfl, T⟩
      have : sgn (pw (dueI na) - pw (dueI nb)) < 0 ↔ pw (dueI na) < pw (dueI nb) := sgn_neg.trans (by omega)
      show decide _ = decide (pw (dueI (ps.getD i 0)) < pw (dueI (ps.getD j 0)))
      rw [ea, eb]
      exact decide_eq_decide.mpr this
  rintro _ rfl D6 h6 tk6 k6 F6 N6
  rw [hlo] at N6
  clear N₅ F₅ F₄
  repeat ((fail_if_success (with_reducible show wpAny _ _ (eval (Expr.ListComp _ _ _ _) _) _ _ _)); (first | (k_unfold; (try dsimp only)) | walk1 | (dsimp only; walk1)))
  rename Fr _ _ _ _ => F₇
  rename News _ _ _ _ => N₇
  have N7 : News g L' _ ([(L' + 1 + 1 + 1 + 1 + 1 + 1, c1), (L' + 1 + 1 + 1 + 1 + 1, c2), (L' + 1 + 1 + 1 + 1, c3), (L' + 1 + 1 + 1, c4), (L' + 1 + 1, c5), (L' + 1, c6), (105, tabObj a105), (74, tabObj a74), (30, tabObj a30)] ++ (117, tabObj b117) :: ((D6, W.listOf (List.toArray (lo.map fun i => (refs rowsS).getD i .none)) k6) :: rs)) := fun p hp => N₇ p (by
    rcases List.mem_append.mp hp with hp | hp
    · exact .tail _ (List.mem_append_left (bs := (117, tabObj b117) :: (ckD.1 w tc f kd ++ (f, fo) :: (c', oc) :: rs)) hp)
    · rcases List.mem_cons.mp hp with rfl | hp
      · exact (.tail _ (.tail _ (.tail _ (.tail _ (.tail _ (.tail _ (.tail _ (.tail _ (.tail _ (.tail _ (.head _)))))))))))
      · rcases List.mem_cons.mp hp with rfl | hp
        · exact .head _
        · exact (.tail _ (.tail _ (.tail _ (.tail _ (.tail _ (.tail _ (.tail _ (.tail _ (.tail _ (.tail _ (.tail _ (List.mem_append_right _ (.tail _ (.tail _ hp)))))))))))))))
  clear N₇
  simp only [List.cons_append, List.nil_append] at N7
  with_unfolding_all refine compL2 g L' rfl (by decide) rfl (by decide) ?_
  repeat ((fail_if_success (with_reducible show wpAny _ _ (eval (Expr.Lambda _ _ _ _) _) _ _ _)); (first | (k_unfold; (try dsimp only)) | walk1 | (dsimp only; walk1)))
  rename IsRange _ _ _ _ _ _ _ _ => hR
  rename Fr _ _ _ _ => F8
  rename News _ _ _ _ => N8
  have ht2 : TriplesOk b117.toList := by
    rw [← hb117]
    rcases ha117 with rfl | ⟨c0, rfl⟩ <;> simp [TriplesOk, rawInt]
  have hn2 : ∀ (c e f : Nat), codeAmong ⟨149, c, e, f⟩ b117.toList = none := by
    intro c e f
    rw [← hb117]
    rcases ha117 with rfl | ⟨c0, rfl⟩ <;> simp [codeAmong, rawInt]
  refine kla_eval rfl ?_
  have hh117 := (N8 _ (.tail _ (.tail _ (.tail _ (.tail _ (.tail _ (.tail _ (.tail _ (.tail _ (.tail _ (.head _))))))))))).1
  k_dflt (refine' lam_new F8 TG (C4.keeps BG.stays) (hgP _ (by k_mem)) rfl rfl hh117 ht2 (hn2 _ _ _) rfl ?_; k_whole)
  intro f2 c2' ctv2 h9 tk9 ex9 ht9 hf9 fr9 frc9 cr9
  dsimp only at ex9 ht9 hf9 fr9 frc9 cr9
  obtain ⟨c117, hc117, ht9⟩ : ∃ b, b117 ++ #[rawInt _, rawInt _, .ref c2'] = b ∧ h9.get? 117 = some (tabObj b) := ⟨_, rfl, ht9⟩
  obtain ⟨c2'', oc2, vc2, tkc2, ec2, hoc2, hdc2, hvc2⟩ := id cr9
  cases ec2
  obtain ⟨fo2, hfo2, hf9⟩ : ∃ fo, fo = kla_obj _ _ _ _ _ _ _ _ _ ∧ h9.get? f2 = some fo := ⟨_, rfl, hf9⟩
  have F9 := Fr.exP F8 ex9 (hgP _ (by k_mem)) (Nat.ne_of_gt l0.2.2.2)
  have hR9 : IsRange h9 _ _ _ _ _ _ _ := ex9 _ _ (fun hm => by
    have z : _ = _ := hR
    rw [List.mem_singleton.mp hm] at z
    rw [hh117] at z
    cases z) hR
  have off3 : ∀ p ∈ [(L' + 1 + 1 + 1 + 1 + 1 + 1, c1), (L' + 1 + 1 + 1 + 1 + 1, c2), (L' + 1 + 1 + 1 + 1, c3), (L' + 1 + 1 + 1, c4), (L' + 1 + 1, c5), (L' + 1, c6), (105, tabObj a105), (74, tabObj a74), (30, tabObj a30)] ++ ((D6, W.listOf (List.toArray (lo.map fun i => (refs rowsS).getD i .none)) k6) :: rs), p.1 ≠ 117 := off_any hh117 (fun p hp => (N8 p (by
    rcases List.mem_append.mp hp with hp | hp
    · exact List.mem_append_left (bs := (117, tabObj b117) :: (D6, W.listOf (List.toArray (lo.map fun i => (refs rowsS).getD i .none)) k6) :: rs) hp
    · exact (.tail _ (.tail _ (.tail _ (.tail _ (.tail _ (.tail _ (.tail _ (.tail _ (.tail _ (.tail _ hp)))))))))))).1) (by
    intro p hp
    simp only [List.cons_append, List.nil_append, List.append_nil, List.mem_cons] at hp
    rcases hp with rfl | rfl | rfl | rfl | rfl | rfl | rfl | rfl | rfl | rfl | hp
    all_goals first | exact .inr (hnc _ hp) | (refine .inl ?_; dsimp only; omega) | exact .inr ⟨(fun v e => by cases e), (fun e => by cases e)⟩)
  have N8b : News g L' _ ([(L' + 1 + 1 + 1 + 1 + 1 + 1, c1), (L' + 1 + 1 + 1 + 1 + 1, c2), (L' + 1 + 1 + 1 + 1, c3), (L' + 1 + 1 + 1, c4), (L' + 1 + 1, c5), (L' + 1, c6), (105, tabObj a105), (74, tabObj a74), (30, tabObj a30)] ++ (117, tabObj b117) :: ((D6, W.listOf (List.toArray (lo.map fun i => (refs rowsS).getD i .none)) k6) :: rs)) := N8
  have N9a := News.tabStep N8b ex9 ht9 off3
  have N9b : News g L' h9 ([(L' + 1 + 1 + 1 + 1 + 1 + 1, c1), (L' + 1 + 1 + 1 + 1 + 1, c2), (L' + 1 + 1 + 1 + 1, c3), (L' + 1 + 1 + 1, c4), (L' + 1 + 1, c5), (L' + 1, c6), (105, tabObj a105), (74, tabObj a74), (30, tabObj a30), (117, tabObj c117)] ++ ((D6, W.listOf (List.toArray (lo.map fun i => (refs rowsS).getD i .none)) k6) :: rs)) := N9a
  have N9 := News.put (os := [(f2, fo2), (c2', oc2)]) N9b F8 (fun p hp => by
    rcases List.mem_cons.mp hp with rfl | hp
    · exact ⟨hf9, fr9⟩
    · rw [List.mem_singleton.mp hp]; exact ⟨hoc2, frc9⟩)
  clear N9a N9b N8b off3 N8 F8
  simp only [List.cons_append, List.nil_append] at N9
  repeat ((fail_if_success (with_reducible show wpAny _ _ (call (Value.builtin _) _ _) _ _ _)); (first | (k_unfold; (try dsimp only)) | walk1 | (dsimp only; walk1)))
  (with_unfolding_all show wpAny _ _ (call (Value.builtin "sorted") [Value.ref _] [(Str.ofString "key", Value.ref f2)]) _ _ _)
  refine sortK (n := 5) (r := fun i j => decide (pw (dueI (ps.getD i 0)) < pw (dueI (ps.getD j 0)))) (T := .type "int") (fun us => us.length = 5 ∧ ∀ (i : Nat) (v : Value), us[i]? = some v → ∃ t, v = Value.int (i : Int) t)
    (fun us i kv os => os = [] ∧ ∃ t, kv = Value.int (pw (dueI (ps.getD i 0))) t) (fun us h => h.1) (by decide) (by decide) F9 N9 ?col ?mk2 ?ty2 (by decide) (by decide) ?lt2 asks ?_
  case col =>
    intro R E' kk
    exact collect_range (n := 5) (by exact hA) hR9 (by decide) fun h' tk acc st hl hi => kk h' tk acc ⟨hl, hi⟩ st
  case ty2 =>
    rintro us _ i kv os h6 ⟨_, t, rfl⟩ _
    exact Looks.of_pure rfl
  case lt2 =>
    rintro us _ i j ki kj oi oj h10 tk10 own hi hj ⟨_, ti, rfl⟩ ⟨_, tj, rfl⟩ F10 N10 _ _
    rw [keyLt'_oneType]
    exact oneLt_int ⟨rfl, _, _, rfl, Tn.of_stays fun _ _ e => e⟩
  case mk2 =>
    rintro us ⟨hul, hui⟩ i v hv h10 tk10 own F10 N10
    obtain ⟨t, rfl⟩ := hui i v hv
    have hi5 : i < 5 := by rw [← hul]; exact (List.getElem?_eq_some_iff.mp hv).1
    obtain ⟨n, hn⟩ : ∃ n, ps[i]? = some n := ⟨_, List.getElem?_eq_getElem (by omega)⟩
    obtain ⟨twi, hwi2⟩ := ipw.get i (pw (dueI n)) (by rw [List.getElem?_map, hn]; rfl)
    have en : ps.getD i 0 = n := by rw [List.getD_eq_getElem?_getD, hn]; rfl
    have hfg := (N10 (f2, fo2) (List.mem_append_left _ (.tail _ (.tail _ (.tail _ (.tail _ (.tail _ (.tail _ (.tail _ (.tail _ (.tail _ (.tail _ (.head _))))))))))))).1
    have hcg := (N10 (c2', oc2) (List.mem_append_left _ (.tail _ (.tail _ (.tail _ (.tail _ (.tail _ (.tail _ (.tail _ (.tail _ (.tail _ (.tail _ (.tail _ (.head _)))))))))))))).1
    have hw10 := (N10 (Dw, _) (List.mem_append_left _ (.tail _ (.tail _ (.tail _ (.tail _ (.tail _ (.tail _ (.tail _ (.tail _ (.tail _ (.tail _ (.tail _ (.tail _ (.tail _ hDw))))))))))))))).1
    have hc10 := (N10 _ (List.mem_append_left _ (.head _))).1
    refine wpAny_call ?_
    k_dflt (refine' enterL (TG.nolimit.keeps F10.keep) (hfo2 ▸ hfg) ⟨c2', oc2, vc2, tkc2, rfl, hcg, hdc2, hvc2⟩ ?q1 ?q2 ?q3 ?_ ?q4 ?q5 ?q6 ?q7; (case q1 => show A.depth + 1 < _; omega); (case q2 => exact rfl); (case q3 => exact locs rfl); (case q4 => exact rfl); (case q5 => exact rfl); (case q6 => exact rfl); (case q7 => decide); k_whole; intro L2 h11 F11; (try dsimp only))
    repeat ((fail_if_success (with_reducible show wpAny _ _ (eval (Expr.Name _ _) _) _ _ _)); (first | (k_unfold; (try dsimp only)) | walk1 | (dsimp only; walk1)))
    with_unfolding_all refine wpAny_Name (wpAny_loadName_free rfl rfl rfl ⟨c1, F11.keep _ _ hc10, e1⟩ ?_)
    repeat ((fail_if_success (with_reducible show wpAny _ _ (subscriptTail _ _ _ _) _ _ _)); (first | (k_unfold; (try dsimp only)) | walk1 | (dsimp only; walk1)))
    have hw11 := F11.keep _ _ hw10
    refine item_at (vs := vw) ⟨_, hw11, rfl, _, rfl⟩ (by omega) (by omega) (by rw [Int.toNat_natCast]; exact hwi2) ?_
    repeat ((fail_if_success (with_reducible show Exists _)); (first | (k_unfold; (try dsimp only)) | walk1 | (dsimp only; walk1)))
    exact ⟨h11, _, [], rfl, Tn.of_stays F11.keep, (fun _ h => nomatch h), rfl, _, by rw [en]⟩
  rintro us ⟨hul, hui⟩ D10 h10 tk10 k10 F10 N10
  rw [hlo] at N10
  obtain ⟨nwX, hnwX, N10x⟩ := News.fix N10
  obtain ⟨mq, hmq, F10⟩ := Fr.fix F10
  clear N10
  have hlo5 : lo.length = 5 := by rw [hperm.length_eq, List.length_range]
  have hlt5 : ∀ i ∈ lo, i < 5 := fun i hi => List.mem_range.mp (hperm.mem_iff.mp hi)
  have hloU : ∀ (i : Nat) (x : Nat), lo[i]? = some x → ∃ t, us.getD x .none = Value.int (x : Int) t := by
    intro i x hx
    have hx5 := hlt5 x (List.mem_of_getElem? hx)
    obtain ⟨t, e⟩ := hui x us[x] (List.getElem?_eq_getElem (by omega))
    exact ⟨t, by rw [List.getD_eq_getElem?_getD, List.getElem?_eq_getElem (by omega)]; exact e⟩
  refine ⟨mq, fun i ys gs' nw => gs' = gs ∧ nwX = nw ∧ ys = (lo.take i).map fun j => (refs rowsD).getD j .none, fun nw => (D10, W.listOf (List.toArray (lo.map fun i => us.getD i .none)) k10) ∈ nw, ?_, ?_⟩
  · rintro i ys gs' nw ⟨_, rfl, _⟩
    rw [← hnwX]; exact .head _
  refine CompG.list (by rw [← hnwX]; exact .head _) (by rw [List.length_map, hlo5]; decide) (show (A.deeper _).handled = none from hA) rfl rfl F10 N10x ⟨rfl, rfl, rfl⟩ (fun _ h => h) ?_ ?_
  · rintro i v ys gs' nw I oI C oC D oD h11 tk11 m₂ E' hi ⟨rfl, rfl, rfl⟩ hC F₂ N₂ off hne
    obtain ⟨x, hx⟩ : ∃ x, lo[i]? = some x := by
      rw [List.getElem?_map] at hi
      cases q : lo[i]? with
      | none => rw [q] at hi; cases hi
      | some x => exact ⟨x, rfl⟩
    obtain ⟨t, ex⟩ := hloU i x hx
    rw [List.getElem?_map, hx, Option.map_some, ex] at hi
    cases hi
    have hx5 := hlt5 x (List.mem_of_getElem? hx)
    obtain ⟨n, hn⟩ : ∃ n, ps[x]? = some n := ⟨_, List.getElem?_eq_getElem (by omega)⟩
    obtain ⟨di, kd2, ud, hdi, mdi, idi⟩ := hlD.at hn
    have N₂e := N₂
    rw [← hnwX] at N₂e
    have hk : nm1 (Str.ofString "k") (.int (x : Int) t) m₂ (Str.ofString "k") = some (.int (x : Int) t) := if_pos rfl
    repeat ((fail_if_success (with_reducible show wpAny _ _ (subscriptTail _ _ _ _) _ _ _)); (first | (k_unfold; (try dsimp only)) | walk1 | (dsimp only; walk1)))
    rename Fr _ _ _ _ => Fw
    have hz2 := (N₂e _ (.tail _ (.tail _ (.tail _ (.tail _ (.tail _ (.tail _ (.tail _ (.tail _ (.tail _ (.tail _ (.tail _ (.tail _ (.tail _ (.tail _ (.tail _ (.tail _ (.tail _ (hDd))))))))))))))))))).1
    refine item_at (vs := refs rowsD) ⟨_, hz2, rfl, _, rfl⟩ (by omega) (by omega) (by rw [Int.toNat_natCast]; exact hdi) ?_
    refine ⟨_, _, _, _, oC, _, rfl, Fw, hC, N₂, off, rfl, rfl, ?_⟩
    rw [List.take_add_one, hx, Option.toList_some, List.map_append, List.map_singleton, List.getD_eq_getElem?_getD, hdi]
    rfl
  · rintro ys gs' nw Dc Cc kc h11 tk11 ⟨rfl, rfl, rfl⟩ hlen F₂ N₂ off
    have e5 : lo.take (lo.map fun i => us.getD i Value.none).length = lo := by rw [List.length_map, List.take_length]
    rw [e5, ← hnwX] at N₂
    have hltp : ∀ i ∈ lo, i < ps.length := fun i hi => by rw [hps]; exact hlt5 i hi
    refine dat_eq (d := .list ((lo.map fun i => dueI (ps.getD i 0)).map datL)) N₂ (.list (.tail _ (.tail _ (.tail _ (.tail _ (.tail _ (.tail _ (.tail _ (.tail _ (.tail _ (.tail _ (.tail _ (.tail _ (.tail _ (.tail _ (.head _))))))))))))))) (hlS.dats (fun p hp => (.tail _ (.tail _ (.tail _ (.tail _ (.tail _ (.tail _ (.tail _ (.tail _ (.tail _ (.tail _ (.tail _ (.tail _ (.tail _ (.tail _ (.tail _ (hrS p hp))))))))))))))))) lo hltp)) (fun _ h => h) (.list (.head _) (hlD.dats (fun p hp => (.tail _ (.tail _ (.tail _ (.tail _ (.tail _ (.tail _ (.tail _ (.tail _ (.tail _ (.tail _ (.tail _ (.tail _ (.tail _ (.tail _ (.tail _ (hrD p hp))))))))))))))))) lo hltp)) (fun _ h => h) (by rw [PySem.W.kqdOk]; exact List.all_eq_true.mpr (dat_ok _)) (by show A.units + 3 + 64 < _; omega) ?_
    refine k _ _ F₂.keep fun P hP => ?_
    simp only [List.mem_cons, List.not_mem_nil, or_false] at hP
    rcases hP with rfl | rfl | rfl | rfl
    · exact ⟨_, (N₂ _ (.tail _ (.tail _ (.tail _ (.tail _ (.tail _ (.tail _ (.tail _ (.tail _ (.head _)))))))))).1⟩
    · exact ⟨_, (N₂ _ (.tail _ (.tail _ (.tail _ (.tail _ (.tail _ (.tail _ (.tail _ (.tail _ (.tail _ (.head _))))))))))).1⟩
    · exact ⟨_, (N₂ _ (.tail _ (.tail _ (.tail _ (.tail _ (.tail _ (.tail _ (.tail _ (.tail _ (.tail _ (.tail _ (.head _)))))))))))).1⟩
    · exact ⟨_, (N₂ _ (.tail _ (.tail _ (.tail _ (.tail _ (.tail _ (.tail _ (.tail _ (.tail _ (.tail _ (.tail _ (.tail _ (.head _))))))))))))).1⟩
end Mine
end
section
open PySem PySem.W PySem.Calls PyProof.Rows
set_option Elab.async false
set_option maxRecDepth 100000
set_option maxHeartbeats 4000000
set_option linter.unusedVariables false
set_option linter.unusedSimpArgs false
namespace Mine

theorem law_R {w : World} {A : Around} {base g : Heap} {p : Program} {loose : List Str} {mean : ExcName → Option Value} {mg mb : Str → Option Value} {L' : Addr} {h : Heap} {gs : Array GenState} {dr : Drawn} {tk : Nat} {os : OsState} {Q : Flow → Shared → Prop} {mx : Str → Option Value} {Ds Dd lw : Addr} {ks kd : Nat} {rs rowsS rowsD : List (Addr × Obj)} {ps : List Int} (BG : Below A base [] g) (XB : (KK w).In base) (TB : Top p loose mean mg mb base) (hd : A.depth < recursionLimit) (hu : A.units + 20 < cLine) (hdp : A.depth + 500 < recursionLimit) (hu2 : A.units + 500 < cLine) (hA : A.handled = none)
   (C1 : CodeHd base 109 105) (C3 : CodeHd base 34 30) (C4 : CodeHd base 119 117) (hb : ∀ P ∈ [105, 74, 30, 117], base.get? P = none) (hgP : ∀ P ∈ [105, 74, 30, 117], g.get? P = none) (lP' : ∀ P ∈ [105, 74, 30, 117], P < L')
   (F : Fr g L' h mx) (hsets : mx (Str.ofString "sets") = some (.ref Ds)) (hnc : ∀ p ∈ rs, NC p) (hDs : (Ds, W.listOf (refs rowsS).toArray ks) ∈ rs) (hrS : ∀ p ∈ rowsS, p ∈ rs) (hDd : (Dd, W.listOf (refs rowsD).toArray kd) ∈ rs) (hrD : ∀ p ∈ rowsD, p ∈ rs)
   (hlS : LR rowsS (ps.map dueI)) (hlD : LR rowsD (ps.map dueI)) (hps : ps.length = 5) (hwi : WaysIn rs lw) {c1 c2 c3 c4 c5 c6 : Obj} {v1 v2 v5 v6 : Option Value} (e1 : c1.data = .cell v1) (e2 : c2.data = .cell v2) (e3 : c3.data = .cell (some (.ref lw))) (e4 : c4.data = .cell (some (.ref Dd))) (e5 : c5.data = .cell v5) (e6 : c6.data = .cell v6) {a74 : Array Value}
   (N : News g L' h ([(L' + 1 + 1 + 1 + 1 + 1 + 1, c1), (L' + 1 + 1 + 1 + 1 + 1, c2), (L' + 1 + 1 + 1 + 1, c3), (L' + 1 + 1 + 1, c4), (L' + 1 + 1, c5), (L' + 1, c6), (105, tabObj #[]), (74, tabObj a74), (30, tabObj #[]), (117, tabObj #[])] ++ rs))
   (k : ∀ h' tk', g.StaysIn h' → (∀ P ∈ [105, 74, 30, 117], ∃ ps, h'.get? P = some (tabObj ps)) → Q (.ret (.bool true)) ⟨h', gs, dr, tk', os⟩) :
   wpAny (model PR w) (A.deeper (lawEnv w L')) (execs (lawR w 6) (lawEnv w L')) Q (fun _ _ => False) ⟨h, gs, dr, tk, os⟩ := by
  have wm : ∀ {rs rs' : List (Addr × Obj)}, WaysIn rs lw → (∀ p ∈ rs, p ∈ rs') → WaysIn rs' lw := by
    rintro rs rs' ⟨r, h1, ⟨n, h2⟩, h3⟩ hs
    exact ⟨r, h1, ⟨n, hs _ h2⟩, fun j r' hj => by
      obtain ⟨vs, n', h4, h5⟩ := h3 j r' hj
      exact ⟨vs, n', hs _ h4, h5⟩⟩
  refine law_B BG XB TB hd hu hdp hu2 hA C1 C3 C4 hb hgP lP' F hsets hnc hDs hrS hDd hrD hlS hlD hps hwi e1 e2 e3 e4 e5 e6 N ?_
  intro h₁ tk₁ c1' Dw nw vw a117 rs₁ F₁ N₁ e1' s₁ hnc₁ hDw ipw ha117
  refine law_C BG XB TB hd hu hdp hu2 hA C1 C3 C4 hb hgP lP' F₁ hsets hnc₁ (s₁ _ hDs) (fun p hp => s₁ _ (hrS p hp)) (s₁ _ hDd) (fun p hp => s₁ _ (hrD p hp)) hlS hlD hps (wm hwi s₁) e1' e2 e3 e4 e5 e6 N₁ ?_
  intro h₂ tk₂ c2' Dq nq vq a105 rs₂ F₂ N₂ e2' s₂ hnc₂ hDq ipq
  have s₃ : ∀ p ∈ rs, p ∈ rs₂ := fun p hp => s₂ _ (s₁ _ hp)
  refine law_L BG XB TB hd hu hdp hu2 hA C1 C3 C4 hb hgP lP' F₂ hsets hnc₂ (s₃ _ hDs) (fun p hp => s₃ _ (hrS p hp)) (s₃ _ hDd) (fun p hp => s₃ _ (hrD p hp)) hlS hlD hps (wm hwi s₃) e1' e2' e3 e4 e5 e6 (s₂ _ hDw) ipw N₂ ?_
  intro h₃ tk₃ mx₃ F₃ hsets₃ N₃
  refine law_K BG XB TB hd hu hdp hu2 hA C1 C3 C4 hb hgP lP' F₃ hsets₃ hnc₂ (s₃ _ hDs) (fun p hp => s₃ _ (hrS p hp)) (s₃ _ hDd) (fun p hp => s₃ _ (hrD p hp)) hlS hlD hps (wm hwi s₃) e1' e2' e3 e4 e5 e6 hDq ipq N₃ ?_
  intro h₄ tk₄ F₄ N₄
  exact law_E BG XB TB hd hu hdp hu2 hA C1 C3 C4 hb hgP lP' F₄ hsets₃ hnc₂ (s₃ _ hDs) (fun p hp => s₃ _ (hrS p hp)) (s₃ _ hDd) (fun p hp => s₃ _ (hrD p hp)) hlS hlD hps (wm hwi s₃) e1' e2' e3 e4 e5 e6 ha117 (s₂ _ hDw) ipw N₄ k
end Mine
end
section
open PySem PySem.W PySem.Calls PyProof.Rows
set_option Elab.async false
set_option maxRecDepth 100000
set_option maxHeartbeats 4000000
set_option linter.unusedVariables false
set_option linter.unusedSimpArgs false
namespace Mine

noncomputable def PR4 (ps : List Int) (i : Nat) (v1 v2 v3 v4 : Value) : Prop := ∃ n t1 t2 t3 t4, ps[i]? = some n ∧ v1 = .int (pa n) t1 ∧ v2 = .int (pb n) t2 ∧ v3 = .int (pc n) t3 ∧ v4 = .int (pf n) t4
theorem parts_row {rows : List (Addr × Obj)} {ps : List Int} (h : LR rows (ps.map partsI)) {i : Nat} {v : Value} (hi : (refs rows)[i]? = some v) : ∃ Dr k v1 v2 v3 v4, v = .ref Dr ∧ (Dr, W.listOf #[v1, v2, v3, v4] k) ∈ rows ∧ PR4 ps i v1 v2 v3 v4 := by
  have hl := h.1
  rw [List.length_map] at hl
  have hil : i < rows.length := by
    by_cases z : i < rows.length
    · exact z
    · rw [List.getElem?_eq_none (by rw [List.length_map]; omega)] at hi; cases hi
  rw [List.getElem?_map, List.getElem?_eq_getElem hil] at hi
  cases hi
  obtain ⟨vs, n, e1, e2⟩ := h.2 i rows[i] (partsI (ps[i]'(hl ▸ hil))) (List.getElem?_eq_getElem hil) (by rw [List.getElem?_map, List.getElem?_eq_getElem (hl ▸ hil)]; rfl)
  have hp : ps[i]? = some (ps[i]'(hl ▸ hil)) := List.getElem?_eq_getElem (hl ▸ hil)
  generalize ps[i]'(hl ▸ hil) = nn at e2 hp
  have e3 : (rows[i]).2 = W.listOf vs.toArray n := e1
  have hm : (rows[i].1, W.listOf vs.toArray n) ∈ rows := by rw [← e3]; exact List.getElem_mem hil
  clear e1 e3
  unfold partsI at e2
  cases e2 with
  | cons _ t1 e2 => cases e2 with
    | cons _ t2 e2 => cases e2 with
      | cons _ t3 e2 => cases e2 with
        | cons _ t4 e2 =>
          cases e2
          exact ⟨_, n, _, _, _, _, rfl, hm, nn, t1, t2, t3, t4, hp, rfl, rfl, rfl, rfl⟩
theorem law_spec {w : World} {A : Around} {s : Shared} {base : Heap} {p : Program} {loose : List Str} {mean : ExcName → Option Value} {mg mb : Str → Option Value} {R : Result → Shared → Prop} (B : Below A base [] s.heap) (XB : (KK w).In base) (TB : Top p loose mean mg mb base) (hd : A.depth < recursionLimit) (hu : A.units + 20 < cLine) (hdp : A.depth + 500 < recursionLimit) (hu2 : A.units + 500 < cLine) (hA : A.handled = none)
   (C1 : CodeHd base 109 105) (C2 : CodeHd base 78 74) (C3 : CodeHd base 34 30) (C4 : CodeHd base 119 117) (hb : ∀ P ∈ [105, 74, 30, 117], base.get? P = none) (hP : Tabs0 [105, 74, 30, 117] s.heap)
   {l : Addr} {vs : List Value} {script : List Int} (hl : s.heap.IsList l vs.toArray) (ix : IntsAre vs script) (hz : script.length ≤ 63)
   (k : ∀ h' tk gs, (∀ y ∈ gs, y ∈ s.gens ∨ y.bare = true) → Ex [105, 74, 30, 117] s.heap h' → (∀ P ∈ [105, 74, 30, 117], ∃ ps, h'.get? P = some (tabObj ps)) → R (.ok (.ret (.bool true))) { s with heap := h', gens := gs, toks := tk }) :
   codeAny (model PR w) A (.call (.ref 120) ⟨[.ref l], []⟩) R s := by
  unfold KK PR at *
  revert XB; k_fill; intro XB
  have upG := hids_up (ts := [105, 74, 30, 117]) B.stays hb
  have X := XB.keeps B.stays
  have XG := XB.keeps upG
  have TG := TB.keeps upG
  have T := TB.keeps B.stays
  have BG := hids_below B hb hP
  have hlG := hids_list hP hl
  have hln := IntsAre.length ix
  k_dflt (refine' enterHs ?k3 ?k5 hP ?k6 ?k7 ?k8 ?k9 ?kB ?kD ?_ ?c2 ?c3 ?c4; (case k3 => exact X); (case k5 => exact T.nolimit); (case k6 => k_is); (case k7 => k_is); (case k8 => assumption); (case k9 => exact BindsTo.of_eq rfl); (case kB => exact rfl); (case kD => decide +kernel); (case c2 => exact rfl); (case c3 => exact rfl); (case c4 => exact rfl); k_whole; intro L' h' tk' cells' F' N' lP' Y'; k_cells Y'; (try simp only [tabs0, List.map_cons, List.map_nil, List.cons_append, List.nil_append] at N'); (try dsimp only))
  clear X T

  repeat ((fail_if_success (with_reducible show wpAny _ _ (eval (Expr.ListComp _ _ _ _) _) _ _ _)); (first | (k_unfold; (try dsimp only)) | walk1 | (dsimp only; walk1)))
  have l0 : (105 : Nat) < L' ∧ (74 : Nat) < L' ∧ (30 : Nat) < L' ∧ (117 : Nat) < L' := ⟨lP' _ (by k_mem), lP' _ (by k_mem), lP' _ (by k_mem), lP' _ (by k_mem)⟩; k_dflt (refine' stCell ?cF1 ?cN1 ?cc1 ?cU1 ?cd1 ?_ ?ca1 ?cb1; (case ca1 => rfl); (case cb1 => rfl); (case cc1 => rfl); (case cF1 => k_asm); (case cN1 => k_asm); (case cU1 => k_updF); (case cd1 => k_asm); k_whole); intro h' o' F' N' d'; (try dsimp only at N'); (try k_sweep)
  repeat ((fail_if_success (with_reducible show wpAny _ _ (exec (Stmt.Assign _ (Expr.ListComp _ _ _ _) _) _) _ _ _)); (first | (k_unfold; (try dsimp only)) | walk1 | (dsimp only; walk1)))
  rename Fr _ _ _ _ => F₀
  rename News _ _ _ _ => N₀
  rename_i D' _ _ _ _ _ _
  obtain ⟨mx, hmx, F₀⟩ := Fr.fix F₀
  clear hmx
  obtain ⟨rs, N₀, hnc, hD'⟩ := News.split1 N₀ ⟨fun v e => (nomatch e), fun e => (nomatch e)⟩
  obtain ⟨fx, hfx, N₀⟩ := News.fix2 N₀
  with_unfolding_all refine compLA (hideAll s.heap [105, 74, 30, 117]) L' mx (fun i ys gs nw => gs = s.gens ∧ ∃ rows, nw = fx ++ rows ∧ ys = refs rows ∧ rows.length = i ∧ ∃ ps : List Int, LR rows (ps.map partsI)) (fun _ => True) (by with_unfolding_all rfl) rfl (by decide) rfl (by decide) (fun _ _ _ _ _ => trivial) rfl rfl rfl ?_
  repeat ((fail_if_success (with_reducible show wpAny _ _ (pyIter _) _ _ _)); (first | (k_unfold; (try dsimp only)) | walk1 | (dsimp only; walk1)))
  rename IsRange _ _ _ _ _ _ _ _ => hR
  rename Fr _ _ _ _ => F₁
  rename News _ _ _ _ => N₁
  refine CompG.range (n := 5) hR rfl rfl (by decide) (show (A.deeper _).handled = none from hA) rfl rfl F₁ N₁ ⟨rfl, [], (List.append_nil _).symm, rfl, rfl, [], LR.nil⟩ ?_ ?_
  · rintro i t ys gs nw I oI C oC D oD h tk m₂ E' hi ⟨rfl, rows, rfl, rfl, hrl, ps, hps⟩ hC F₂ N₂ off hne
    clear F₁ N₁ hR
    have N₂e := N₂
    rw [← hfx] at N₂e
    (try simp only [List.cons_append, List.nil_append] at N₂e)
    have hk : nm1 (Str.ofString "k") (.int (i : Int) t) m₂ (Str.ofString "k") = some (.int (i : Int) t) := if_pos rfl
    clear N₂
    repeat ((fail_if_success (with_reducible show wpAny _ _ (subscriptTail _ _ _ _) _ _ _)); (first | (k_unfold; (try dsimp only)) | walk1 | (dsimp only; walk1)))
    rename News _ _ _ _ => N₃
    refine tup_int_at (ns := [107, 231, 355, 83, 10]) ⟨_, (N₃ _ (.tail _ (.tail _ (.tail _ (.tail _ (.tail _ (.tail _ (.tail _ (.tail _ (.tail _ (.tail _ (.tail _ (.tail _ (.tail _ (List.mem_append_left _ hD'))))))))))))))).1, rfl, _, rfl⟩ (.cons _ _ (.cons _ _ (.cons _ _ (.cons _ _ (.cons _ _ .nil))))) (by omega) (by show (i : Int) < 5; omega) (by omega) ?_
    intro tv
    repeat ((fail_if_success (with_reducible show wpAny _ _ (subscriptTail _ _ _ _) _ _ _)); (first | (k_unfold; (try dsimp only)) | walk1 | (dsimp only; walk1)))
    rename News _ _ _ _ => N₄
    rename Fr _ _ _ _ => F₄
    obtain ⟨ms, hms⟩ := ints_pick ix (some (i : Int)) none (some 5)
    k_dflt (refine' kmk_slice3_lit F₄ N₄ (F₄.lst hlG) (.int _ _) .none (.int _ _) ?s0 rfl ?_ ?s1 ?s2 ?s3; (case s0 => decide); (case s1 => with_unfolding_all rfl); (case s2 => (intro _; with_unfolding_all rfl)); (case s3 => (rw [List.size_toArray, hln]; (have : 63 ≤ sizeLine := by decide); omega)))
    intro D3 h3 F₅ N₅ l3
    repeat ((fail_if_success (with_reducible show wpAny _ _ (call (.builtin _) _) _ _ _)); (first | (k_unfold; (try dsimp only)) | walk1 | (dsimp only; walk1)))
    refine PyProof.Rows.LSm.sum_ints F₅ N₅ (show (A.deeper _).handled = none from hA) ⟨_, (N₅ _ (.head _)).1, rfl, _, rfl⟩ hms ?_
    intro h4 tk4 t4 F₆ N₆
    repeat ((fail_if_success (with_reducible show wpAny _ _ (call (Value.ref 58) _) _ _ _)); (first | (k_unfold; (try dsimp only)) | walk1 | (dsimp only; walk1)))
    rename Fr _ _ _ _ => F₇
    rename News _ _ _ _ => N₇
    refine parts_spec (pushX BG F₇ rfl rfl) XB TB ?d1 ?d2 ?_
    case d1 => show A.depth + 1 < _; omega
    case d2 => show A.units + 3 + 20 < _; omega
    intro h8 tk8 l8 vs8 st8 hl8 i8 fr8
    refine TurnEnd.snoc (fx := fx) (rows := rows) ?n8 F₇ hC off st8 hl8 fr8 ⟨rfl, _, rfl, refs_snoc.symm, by rw [List.length_append, hrl]; rfl, ps ++ [([107, 231, 355, 83, 10] : List Int).getD (i : Int).toNat 0 + ms.sum], ?lr8⟩
    case lr8 => rw [List.map_append]; exact hps.snoc i8
    case n8 => rw [← hfx]; exact fun q hq => N₇ q (.tail _ hq)
  · rintro ys gs nw Dp Cp kp h tk ⟨rfl, rowsP, rfl, rfl, hrlP, ps, hps⟩ hlen F₂ N₂ off
    refine ⟨kp, _, F₂, N₂, off, fun h' F₃ N₃ => ?_⟩
    obtain ⟨rs1, N₃, hnc1, hrs1, hrw1, hDp⟩ := News.absorb N₃ hfx hnc (LR.nc hps) ⟨fun v e => (nomatch e), fun e => (nomatch e)⟩
    have hD1 := hrs1 _ hD'
    clear F₁ N₁ hR F₂ N₂ off hfx hnc hrs1 hD'
    (try simp only [List.cons_append, List.nil_append] at N₃)
    repeat ((fail_if_success (with_reducible show wpAny _ _ (exec (Stmt.Assign _ (Expr.ListComp _ _ _ _) _) _) _ _ _)); (first | (k_unfold; (try dsimp only)) | walk1 | (dsimp only; walk1)))
    refine wpAny_Assign_Name (hs := by with_unfolding_all rfl) ?_
    rename Fr _ _ _ _ => F₄
    obtain ⟨fx, hfx, N₄⟩ := News.fix2 (hd := [_, _, _, _, _, _, _, _, _, _]) (rs := rs1) N₃
    clear N₃
    have hsub : ∀ p ∈ rs1, p ∈ fx := fun p hp => by rw [← hfx]; exact List.mem_append_right _ hp
    with_unfolding_all refine compL (hideAll s.heap [105, 74, 30, 117]) L' (fun z => if z = Str.ofString "parts" then some (Value.ref Dp) else mx z) (fun i ys gs nw => gs = s.gens ∧ ∃ rows, nw = fx ++ rows ∧ ys = refs rows ∧ rows.length = i ∧ LR rows ((ps.take i).map dueI)) (fun nw => (Dp, W.listOf (refs rowsP).toArray kp) ∈ nw) rfl (by decide) rfl (by decide) (by rintro i ys gs nw ⟨_, rows, rfl, _⟩; exact List.mem_append_left _ (hsub _ hDp)) ?_
    repeat ((fail_if_success (with_reducible show wpAny _ _ (pyIter _) _ _ _)); (first | (k_unfold; (try dsimp only)) | walk1 | (dsimp only; walk1)))
    rename Fr _ _ _ _ => F₅
    rename News _ _ _ _ => N₅
    refine CompG.list4 (hsub _ hDp) (by rw [List.length_map, hrlP]; decide) (show (A.deeper _).handled = none from hA) rfl rfl rfl rfl rfl F₅ N₅ ⟨rfl, [], (List.append_nil _).symm, rfl, rfl, LR.nil⟩ (fun _ h => h) (PR4 ps) ?_ ?_ ?_
    · rintro i v ys gs nw hi ⟨rfl, rows, rfl, _⟩
      obtain ⟨Dr, k, v1, v2, v3, v4, e, hm, hPR⟩ := parts_row hps hi
      exact ⟨Dr, k, v1, v2, v3, v4, e, List.mem_append_left _ (hsub _ (hrw1 _ hm)), hPR⟩
    · rintro i v1 v2 v3 v4 ys gs nw I oI C oC D oD h tk m₂ E' hi ⟨n, t1, t2, t3, t4, hn, rfl, rfl, rfl, rfl⟩ ⟨rfl, rows, rfl, rfl, hrl, hlr⟩ hC F₂ N₂ off hne
      have N₂e := N₂
      rw [← hfx] at N₂e
      (try simp only [List.cons_append, List.nil_append] at N₂e)
      clear N₂ F₅ N₅
      have qa : nm1 (Str.ofString "form") (.int (pf n) t4) (nm1 (Str.ofString "c") (.int (pc n) t3) (nm1 (Str.ofString "b") (.int (pb n) t2) (nm1 (Str.ofString "a") (.int (pa n) t1) m₂))) (Str.ofString "a") = some (.int (pa n) t1) := by with_unfolding_all rfl
      have qb : nm1 (Str.ofString "form") (.int (pf n) t4) (nm1 (Str.ofString "c") (.int (pc n) t3) (nm1 (Str.ofString "b") (.int (pb n) t2) (nm1 (Str.ofString "a") (.int (pa n) t1) m₂))) (Str.ofString "b") = some (.int (pb n) t2) := by with_unfolding_all rfl
      have qc : nm1 (Str.ofString "form") (.int (pf n) t4) (nm1 (Str.ofString "c") (.int (pc n) t3) (nm1 (Str.ofString "b") (.int (pb n) t2) (nm1 (Str.ofString "a") (.int (pa n) t1) m₂))) (Str.ofString "c") = some (.int (pc n) t3) := by with_unfolding_all rfl
      have qform : nm1 (Str.ofString "form") (.int (pf n) t4) (nm1 (Str.ofString "c") (.int (pc n) t3) (nm1 (Str.ofString "b") (.int (pb n) t2) (nm1 (Str.ofString "a") (.int (pa n) t1) m₂))) (Str.ofString "form") = some (.int (pf n) t4) := by with_unfolding_all rfl
      repeat ((fail_if_success (with_reducible show wpAny _ _ (call (Value.ref 72) _) _ _ _)); (first | (k_unfold; (try dsimp only)) | walk1 | (dsimp only; walk1)))
      rename Fr _ _ _ _ => F₇
      rename News _ _ _ _ => N₇
      refine marks_spec (pushX BG F₇ rfl rfl) XB TB ?d3 ?d4 ?_
      case d3 => show A.depth + 1 < _; omega
      case d4 => show A.units + 3 + 20 < _; omega
      intro h8 tk8 l8 vs8 n8 st8 hl8 i8 fr8
      refine TurnEnd.snoc (fx := fx) (rows := rows) ?n9 F₇ hC off st8 hl8 fr8 ⟨rfl, _, rfl, refs_snoc.symm, by rw [List.length_append, hrl]; rfl, hlr.take hn i8⟩
      rw [← hfx]; exact N₇
    · rintro ys gs nw Dd Cd kd h tk ⟨rfl, rowsD, rfl, rfl, hrlD, hlr⟩ hlen F₂ N₂ off
      have hpl := hps.1
      rw [List.length_map, hrlP] at hpl
      rw [List.length_map, hrlP, hpl, List.take_length] at hlr
      obtain ⟨rs2, N₃, hnc2, hrs2, hrw2, hDd⟩ := News.absorb N₂ hfx hnc1 (LR.nc hlr) ⟨fun v e => (nomatch e), fun e => (nomatch e)⟩
      clear F₅ N₅ N₂ off
      (try simp only [List.cons_append, List.nil_append] at N₃)
      repeat ((fail_if_success (with_reducible show wpAny _ _ (storeName _ _ _) _ _ _)); (first | (k_unfold; (try dsimp only)) | walk1 | (dsimp only; walk1)))
      have l0 : (105 : Nat) < L' ∧ (74 : Nat) < L' ∧ (30 : Nat) < L' ∧ (117 : Nat) < L' := ⟨lP' _ (by k_mem), lP' _ (by k_mem), lP' _ (by k_mem), lP' _ (by k_mem)⟩; k_dflt (refine' stCellR (hd := [_, _, _, _, _, _, _, _, _, _]) ?cF2 ?cN2 ?cc2 ?cU2 ?cd2 ?cr2 ?_ ?ca2 ?cb2; (case ca2 => rfl); (case cb2 => rfl); (case cc2 => rfl); (case cF2 => k_asm); (case cN2 => exact N₃); (case cU2 => k_updF); (case cd2 => k_asm); (case cr2 => exact fun p hp => (hnc2 p hp).1); k_whole); intro h' o' F' N' d'; clear l0
      clear N₃
      (try simp only [List.cons_append, List.nil_append] at N')
      repeat ((fail_if_success (with_reducible show wpAny _ _ (exec (Stmt.Assign _ (Expr.ListComp _ _ _ _) _) _) _ _ _)); (first | (k_unfold; (try dsimp only)) | walk1 | (dsimp only; walk1)))
      rename Fr _ _ _ _ => F₆
      have N₆ := News.front (a := [_, _, _, _, _, _, _]) (x := (74, tabObj #[])) (b := _ :: _ :: rs2) N'
      clear N'
      obtain ⟨fx2, hfx2, N₆⟩ := News.fix1 N₆
      have hs2 : ∀ p ∈ rs2, p ∈ fx2 := fun p hp => by rw [← hfx2]; exact List.mem_append_right _ (.tail _ (.tail _ hp))
      have l0 : (105 : Nat) < L' ∧ (74 : Nat) < L' ∧ (30 : Nat) < L' ∧ (117 : Nat) < L' := ⟨lP' _ (by k_mem), lP' _ (by k_mem), lP' _ (by k_mem), lP' _ (by k_mem)⟩
      have h74 : ∀ p ∈ fx2, p.1 ≠ 74 := off_of N₆ fun p hp => by
        rw [← hfx2] at hp
        simp only [List.cons_append, List.nil_append, List.mem_cons] at hp
        rcases hp with rfl | rfl | rfl | rfl | rfl | rfl | rfl | rfl | rfl | hp
        all_goals first | exact .inr (hnc2 _ hp) | (refine .inl ?_; dsimp only; omega)
      clear l0
      with_unfolding_all refine compLA (hideAll s.heap [105, 74, 30, 117]) L' (fun z => if z = Str.ofString "parts" then some (Value.ref Dp) else mx z) (fun i ys gs nw => (∀ y ∈ gs, y ∈ s.gens ∨ y.bare = true) ∧ ∃ tab cs rows, nw = (74, tab) :: (fx2 ++ (cs ++ rows)) ∧ TabC 107 18 (Str.ofString "_law_walked.<locals>.<lambda>") (hideAll s.heap [105, 74, 30, 117]) tab cs ∧ (∀ p ∈ fx2 ++ (cs ++ rows), p.1 ≠ 74) ∧ ys = refs rows ∧ rows.length = i ∧ LR rows ((ps.take i).map dueI)) (fun nw => (Dp, W.listOf (refs rowsP).toArray kp) ∈ nw) (by with_unfolding_all rfl) rfl (by decide) rfl (by decide) (by rintro i ys gs nw ⟨_, tab, cs, rows, rfl, _⟩; exact .tail _ (List.mem_append_left _ (hs2 _ (hrs2 _ hDp)))) rfl rfl rfl ?_
      repeat ((fail_if_success (with_reducible show wpAny _ _ (pyIter _) _ _ _)); (first | (k_unfold; (try dsimp only)) | walk1 | (dsimp only; walk1)))
      rename Fr _ _ _ _ => F₅
      rename News _ _ _ _ => N₅
      refine CompG.list4 (.tail _ (hs2 _ (hrs2 _ hDp))) (by rw [List.length_map, hrlP]; decide) (show (A.deeper _).handled = none from hA) rfl rfl rfl rfl rfl F₅ N₅ ⟨fun y hy => .inl hy, _, [], [], by rw [List.append_nil, List.append_nil], .inl rfl, by rw [List.append_nil, List.append_nil]; exact h74, rfl, rfl, LR.nil⟩ (fun _ h => h) (PR4 ps) ?_ ?_ ?_
      · rintro i v ys gs nw hi ⟨_, tab, cs, rows, rfl, _⟩
        obtain ⟨Dr, k, v1, v2, v3, v4, e, hm, hPR⟩ := parts_row hps hi
        exact ⟨Dr, k, v1, v2, v3, v4, e, .tail _ (List.mem_append_left _ (hs2 _ (hrs2 _ (hrw1 _ hm)))), hPR⟩
      · rintro i v1 v2 v3 v4 ys gs nw I oI C oC D oD h tk m₂ E' hi ⟨n, t1, t2, t3, t4, hn, rfl, rfl, rfl, rfl⟩ ⟨hgs, tab, cs, rows, rfl, htc, hof, rfl, hrl, hlr2⟩ hC F₂ N₂ off hne
        have N₂e := N₂
        rw [← hfx2] at N₂e
        (try simp only [List.cons_append, List.nil_append] at N₂e)
        clear F₅ N₅
        have qa : nm1 (Str.ofString "form") (.int (pf n) t4) (nm1 (Str.ofString "c") (.int (pc n) t3) (nm1 (Str.ofString "b") (.int (pb n) t2) (nm1 (Str.ofString "a") (.int (pa n) t1) m₂))) (Str.ofString "a") = some (.int (pa n) t1) := by with_unfolding_all rfl
        have qb : nm1 (Str.ofString "form") (.int (pf n) t4) (nm1 (Str.ofString "c") (.int (pc n) t3) (nm1 (Str.ofString "b") (.int (pb n) t2) (nm1 (Str.ofString "a") (.int (pa n) t1) m₂))) (Str.ofString "b") = some (.int (pb n) t2) := by with_unfolding_all rfl
        have qc : nm1 (Str.ofString "form") (.int (pf n) t4) (nm1 (Str.ofString "c") (.int (pc n) t3) (nm1 (Str.ofString "b") (.int (pb n) t2) (nm1 (Str.ofString "a") (.int (pa n) t1) m₂))) (Str.ofString "c") = some (.int (pc n) t3) := by with_unfolding_all rfl
        have qform : nm1 (Str.ofString "form") (.int (pf n) t4) (nm1 (Str.ofString "c") (.int (pc n) t3) (nm1 (Str.ofString "b") (.int (pb n) t2) (nm1 (Str.ofString "a") (.int (pa n) t1) m₂))) (Str.ofString "form") = some (.int (pf n) t4) := by with_unfolding_all rfl
        repeat ((fail_if_success (with_reducible show wpAny _ _ (call (Value.ref 65) _) _ _ _)); (first | (k_unfold; (try dsimp only)) | walk1 | (dsimp only; walk1)))
        refine row_spec (pushX BG F₂ rfl rfl) XB TB ?d5 ?d6 (pf_range n).1 (pf_range n).2 ?_
        case d5 => show A.depth + 1 < _; omega
        case d6 => show A.units + 3 + 20 < _; omega
        intro h8 tk8 l8 vs8 n8 st8 hl8 i8 fr8
        have F₈ := F₂.keeps st8
        have N₈ := News.grown N₂ st8
        have hT8 : TabOk 74 107 18 (Str.ofString "_law_walked.<locals>.<lambda>") h8 := htc.ok (N₈ _ (.tail _ (.tail _ (.tail _ (.head _))))).1 F₈.keep (fun p hp => N₈ p (.tail _ (.tail _ (.tail _ (.tail _ (List.mem_append_right _ (List.mem_append_left _ hp)))))))
        clear N₂e
        repeat ((fail_if_success (with_reducible show wpAny _ _ (call (Value.ref 79) _) _ _ _)); (first | (k_unfold; (try dsimp only)) | walk1 | (dsimp only; walk1)))
        refine walked_spec (pushX BG F₈ rfl rfl) XB TB ?e1 ?e2 ?e3 ?e4 hA C2 (hb 74 (by k_mem)) hT8 ⟨_, hl8, rfl, _, rfl⟩ i8 (row_head n) ?_
        case e1 => show A.depth + 1 < _; omega
        case e2 => show A.units + 3 + 20 < _; omega
        case e3 => show A.depth + 1 + 100 < _; omega
        case e4 => show A.units + 3 + 100 < _; omega
        intro h9 tk9 gs9 D9 ws9 hb9 ex9 ts9 fr9 hl9 i9
        refine TurnEnd.snocT (fx := fx2) (cs := cs) (rows := rows) N₂ F₂ hC off hof (fun b o hm e => ex9 b o hm (st8 _ _ e)) (ts9.back st8 (N₂ _ (.tail _ (.tail _ (.tail _ (.head _))))).1) htc hl9 (fresh_back st8 fr9) fun tab' cs' tc' off' => ⟨?_, tab', cs', _, rfl, tc', off', refs_snoc.symm, by rw [List.length_append, hrl]; rfl, hlr2.take hn (walk_due n ▸ i9)⟩
        intro y hy
        rcases Array.mem_push.mp hy with hy | rfl
        · exact hgs y hy
        · exact .inr hb9
      · rintro ys gs nw Ds Cs ks h tk ⟨hgs, tab, cs, rowsS, rfl, htc, hof, rfl, hrlS, hlrS⟩ hlen F₂ N₂ off
        refine ⟨ks, _, F₂, N₂, off, fun h' F₃ N₃ => ?_⟩
        rw [List.length_map, hrlP, hpl, List.take_length] at hlrS
        rw [List.length_map, hrlP] at hrlS
        have htab : ∃ as, tab = tabObj as := by
          rcases htc with rfl | ⟨c', oc, vs, t, rfl, _⟩
          · exact ⟨_, rfl⟩
          · exact ⟨_, rfl⟩
        obtain ⟨rs3, N₃, hnc3, hrs3, hrw3, hDs⟩ := News.absorb2 (a := [_, _, _, _, _, _, _]) (b := [_, _]) (rs := rs2) N₃ hfx2 hnc2 (LR.nc hlrS) ⟨fun v e => (nomatch e), fun e => (nomatch e)⟩
        clear F₅ N₅ N₂ off N₆ hof htc h74
        (try simp only [List.cons_append, List.nil_append] at N₃)
        repeat ((fail_if_success (with_reducible show wpAny _ _ (compareOp _ _ _) _ _ _)); (first | (k_unfold; (try dsimp only)) | walk1 | (dsimp only; walk1)))
        rename Fr _ _ _ _ => F₄
        rename News _ _ _ _ => N₄
        refine PySem.W.kqd_ne N₄ ((.tail _ (.tail _ (.tail _ (.tail _ (.tail _ (.tail _ (.tail _ (.tail _ (.tail _ (.tail _ hDs))))))))))) rfl rfl (hlrS.dat (fun p hp => hrw3 p hp)) (fun p hp => (.tail _ (.tail _ (.tail _ (.tail _ (.tail _ (.tail _ (.tail _ (.tail _ (.tail _ (.tail _ hp))))))))))) ((.tail _ (.tail _ (.tail _ (.tail _ (.tail _ (.tail _ (.tail _ (.tail _ (.tail _ (.tail _ (hrs3 _ hDd)))))))))))) rfl rfl (hlr.dat (fun p hp => hrs3 _ (hrw2 p hp))) (fun p hp => (.tail _ (.tail _ (.tail _ (.tail _ (.tail _ (.tail _ (.tail _ (.tail _ (.tail _ (.tail _ hp))))))))))) (dat_ok _) (dat_ok _) (by show A.units + 3 + 64 < _; omega) ?_
        simp only [decide_true, Bool.not_true]
        repeat ((fail_if_success (with_reducible show wpAny _ _ (call (Value.ref 103) _) _ _ _)); (first | (k_unfold; (try dsimp only)) | walk1 | (dsimp only; walk1)))
        rename Fr _ _ _ _ => F₅
        rename News _ _ _ _ => N₅
        refine ways_spec (pushX BG F₅ rfl rfl) XB TB ?w1 ?w2 ?w3 hA ?_
        case w1 => show A.depth + 1 < _; omega
        case w2 => show A.units + 3 + 20 < _; omega
        case w3 => show A.units + 3 + 60 < _; omega
        intro h5 tk5 lw os st5 hos hwi
        have N₆ := News.add (hd := [_, _, _, _, _, _, _, _, _, _]) (rs := rs3) (os := os) N₅ F₅ st5 (fun p hp => ⟨(hos p hp).1, (hos p hp).2.1⟩)
        have F₆ := F₅.keeps st5
        have hnc4 : ∀ p ∈ os ++ rs3, NC p := fun p hp => (List.mem_append.mp hp).elim (fun h => (hos p h).2.2) (hnc3 p)
        clear F₅ N₅
        (try simp only [List.cons_append, List.nil_append] at N₆)
        repeat ((fail_if_success (with_reducible show wpAny _ _ (storeName _ _ _) _ _ _)); (first | (k_unfold; (try dsimp only)) | walk1 | (dsimp only; walk1)))
        have l0 : (105 : Nat) < L' ∧ (74 : Nat) < L' ∧ (30 : Nat) < L' ∧ (117 : Nat) < L' := ⟨lP' _ (by k_mem), lP' _ (by k_mem), lP' _ (by k_mem), lP' _ (by k_mem)⟩; k_dflt (refine' stCellR (hd := [_, _, _, _, _, _, _, _, _, _]) ?cF3 ?cN3 ?cc3 ?cU3 ?cd3 ?cr3 ?_ ?ca3 ?cb3; (case ca3 => rfl); (case cb3 => rfl); (case cc3 => rfl); (case cF3 => k_asm); (case cN3 => exact N₆); (case cU3 => k_updF); (case cd3 => k_asm); (case cr3 => exact fun p hp => (hnc4 p hp).1); k_whole); intro h' o' F' N' d'; clear l0
        clear N₆
        (try simp only [List.cons_append, List.nil_append] at N')
        rename Fr _ _ _ _ => F₇
        obtain ⟨as74, rfl⟩ := htab
        dsimp only; k_dflt (refine' lawCutI (K := Mine.hd.heap_1 w.params) (f := 120) 6 ?k6 ?he ?_; (case k6 => k_is); (case he => rfl); k_whole)
        refine' law_R (lw := lw) BG XB TB hd hu (by omega) (by omega) hA C1 C3 C4 hb (fun P hP => hideAll_none _ hP) lP' F₇ rfl hnc4 (List.mem_append_right _ hDs) (fun p hp => List.mem_append_right _ (hrw3 p hp)) (List.mem_append_right _ (hrs3 _ hDd)) (fun p hp => List.mem_append_right _ (hrs3 _ (hrw2 p hp))) hlrS hlr (by rw [← hpl]) ?wi ?x1 ?x2 ?x3 ?x4 ?x5 ?x6 N' ?_
        case wi =>
          obtain ⟨r, h1, ⟨n, h2⟩, h3⟩ := hwi
          exact ⟨r, h1, ⟨n, List.mem_append_left _ h2⟩, fun j r' hj => by
            obtain ⟨vs, n', h4, h5⟩ := h3 j r' hj
            exact ⟨vs, n', List.mem_append_left _ h4, h5⟩⟩
        case x1 => assumption
        case x2 => assumption
        case x3 => assumption
        case x4 => assumption
        case x5 => assumption
        case x6 => assumption
        intro h₉ tk₉ st₉ tabs
        exact k h₉ tk₉ _ hgs (fun b o hb e => st₉ _ _ (hideAll_get _ e hb)) tabs
end Mine
end
section
open PySem PySem.W PySem.Calls PyProof.Rows
set_option Elab.async false
set_option maxRecDepth 100000
set_option maxHeartbeats 8000000




set_option maxRecDepth 100000 in
set_option maxHeartbeats 8000000 in
theorem PySem.Challenge.cw_ny0103_01_holds : PySem.Challenge.rw_ny0103_01.Holds :=
  Mine.hd (by
  k_fill
  intro w s₀ s₁ mg mb G Y fa o pm cd doc dV kV ho hd hcd hD hmg hg args vals as hpre hlay hrd hwl hlo
  have KX := km_in_of Y
  km_tabs Y
  have X := (Ground.X G).1
  have V := (Ground.X G).2
  refine Ground.open G ?_
  intro T B D TE TW
  try (refine guard_noD D (by decide +kernel) ?_; clear D)
  have hfa : fa = 120 := by
    obtain ⟨o, es, ep, ho, hd, _, hns⟩ := T.g
    have e3 := KX 3 _ (show (Mine.hd.heap_1 w.params).lookup 3 = some _ by with_unfolding_all rfl)
    have e4 : s₁.heap.get? 3 = some o := ho
    rw [e3] at e4
    cases e4
    cases hd
    rw [← hns] at hmg
    have e5 : some (Value.ref 120) = some (.ref fa) := hmg
    cases e5
    rfl
  subst hfa
  km_lay T hmg ho hd cd
  clear hmg hd hD
  wrow_args hpre hlay hrd hwl hlo
  first | refine callC_kw (enter_call ?_) | refine enter_call ?_
  refine Mine.kn_postG hT9 (fun _ _ => rfl) ?_
  rename IntsAre _ _ => ix
  rename Heap.IsList _ _ _ => hl
  rename ¬ _ < _ => hz
  refine Mine.law_spec (base := ghostOf s₁.heap [(109, 105), (78, 74), (34, 30), (119, 117)]) ⟨rfl, fun b o e => of_hideAll _ e, trivial⟩ (ghost_K hT9 KX (by kernel_rfl)) (ghost_top hT9 T) (by decide) (by decide) (by decide) (by decide) rfl (ghost_code hT9).1 (ghost_code hT9).2.1 (ghost_code hT9).2.2.1 (ghost_code hT9).2.2.2.1
    (fun P hP => hideAll_none _ hP) hT8 hl ix (by omega) ?_
  intro h' tk gs hgs ex tabs
  have gr : ∀ P ∈ [105, 74, 30, 117], GrownAt P h' := fun P hP => tabs P hP
  refine' ⟨⟨.inl ⟨.bool true, .bool true, [], rfl, fun _ => rfl, .bool _, ?post, fun _ => ⟨.nil, fun _ h => nomatch h⟩⟩, fun b o e => ex b o (fun hm => ?_) (of_hideAll _ e), rfl, hg⟩, fun y hy => ?_, gr _ (by simp), gr _ (by simp), gr _ (by simp), gr _ (by simp), trivial⟩
  case post => with_unfolding_all rfl
  · have z : (ghostOf s₁.heap [(109, 105), (78, 74), (34, 30), (119, 117)]).get? b = none := hideAll_none _ hm
    rw [z] at e
    cases e
  · rcases hgs y hy with h | h
    · rw [hg] at h; simp at h
    · exact h)
end
