import PyProof.Rows.All
import Wide.All
import OpenK.AllK
import Wide.FinOn
import PySem.Challenge.RW_aq6004_01
open PySem PySem.W PyProof.Rows
set_option Elab.async false
namespace Mine

-- a raise out of a handler's suite: «except AssertionError as n: raise ValueError from n», at any depth of frames
section
open PySem.Calls
theorem entry_unchain : entryFor table "proto.unchain" = some Builtin.«proto.unchain» := entryFor_of_fast (by kernel_rfl)
structure Made2 (h h' : Heap) (e2 e : Addr) : Prop where
  keeps : ∀ b o, h.get? b = some o → h'.get? b = some o
  new : h.get? e2 = none
  there : ∃ t, h'.get? e2 = some { cls := .type "ValueError", data := .fields #[.ref t, .none, .ref e, .ref e, .bool true, .none] }

section
variable {prog : Program} {w : World} {A : Around} {E : Value → Shared → Prop} {s : Shared} {env : Env}

set_option maxHeartbeats 2000000 in
theorem raise_from {e : Addr} {oe : Obj} {vs : Array Value} {x n : Str} {np np3 pos : Pos} {Q : Flow → Shared → Prop}
    (hh : A.handled = some (.ref e)) (he : s.heap.get? e = some oe) (hcls : oe.cls = .type "AssertionError") (hd : oe.data = .fields vs) (h2 : vs[2]? = some .none)
    (hv : ∀ (Q : Value → Shared → Prop) (E : Value → Shared → Prop), Q (.type "ValueError") s → wpAny (model prog w) A (eval (.Name x np) env) Q E s)
    (hn : ∀ (Q : Value → Shared → Prop) (E : Value → Shared → Prop), Q (.ref e) s → wpAny (model prog w) A (eval (.Name n np3) env) Q E s)
    (k : ∀ H' e2, Made2 s.heap H' e2 e → E (.ref e2) { s with heap := H' }) :
    wpAny (model prog w) A (exec (.Raise (some (.Name x np)) (some (.Name n np3)) pos) env) Q E s := by
  rw [arm_exec_Raise]
  show wpAny (model prog w) A (do standAt pos; raiseStmt env (some (do let v ← eval (.Name x np) env; standAt pos; pure v)) (some (do let v ← eval (.Name n np3) env; standAt pos; pure v))) Q E s
  refine wpAny_bind (wpAny_standAt ?_)
  unfold raiseStmt
  refine wpAny_bind (wpAny_bind (hv _ _ (wpAny_bind (wpAny_standAt (wpAny_pure ?_)))))
  refine wpAny_bind ?_
  refine wpAny_bind ?_
  refine hn _ _ ?_
  refine wpAny_bind (wpAny_standAt (wpAny_pure ?_))
  refine wpAny_bind (wpAny_pure ?_)
  obtain ⟨hp, g, d, tk, os⟩ := s
  refine wpAny_bind ?_
  show wpAny _ _ (holding _ _) _ _ _
  refine wpAny_holding ?_
  unfold excFromValue
  have hsub := PySem.F.excRaise_ValueError.isExc
  have hmeta := PySem.F.excRaise_ValueError.plainMeta
  unfold isExcClass
  repeat (first | refine wpAny_call_exc PySem.F.excCall_ValueError (fun h' e2 hm => ?_) (Nat.zero_le _) | wp_step)
  obtain ⟨t, ht, _, _⟩ := hm.there
  obtain ⟨c, dd, dt, sl⟩ := oe
  obtain rfl : c = .type "AssertionError" := hcls
  obtain rfl : dt = .fields vs := hd
  have he' := hm.keeps _ _ he
  have hne : e ≠ e2 := fun q => by
    have := hm.new
    rw [← q] at this
    exact absurd (he.symm.trans this) (by simp)
  have hsubA := PySem.F.excRaise_AssertionError.isExc
  have hmetaA := PySem.F.excRaise_AssertionError.plainMeta
  have hself : isSubtype (.type "ValueError") (.type "ValueError") = pure true := PySem.F.excCall_ValueError.sub
  repeat (first | refine wpAny_loadPart ht ?_ | refine wpAny_loadPart he' ?_ | (refine call_issubclass (issubclass_self excClass_ValueError hself) ?_; dsimp only [wants]) | wp_step)
  unfold raiseNew
  refine wpAny_bind (wpAny_handled ?_)
  rw [hh]
  dsimp only
  rw [if_pos (show (Value.ref e != Value.ref e2) = true from by simp [hne])]
  have hg4 : ((h'.update e2 (Obj.mapFields fun x => x.setIfInBounds 3 (Value.ref e))).update e2 (Obj.mapFields fun x => x.setIfInBounds 4 (Value.bool true))).get? e = some ⟨.type "AssertionError", dd, .fields vs, sl⟩ := by
    rw [Heap.get?_update_other _ _ (Ne.symm hne), Heap.get?_update_other _ _ (Ne.symm hne)]
    exact he'
  have ht3 := Heap.get?_update_self (Obj.mapFields fun x => x.setIfInBounds 3 (Value.ref e)) ht rfl
  have ht4 := Heap.get?_update_self (Obj.mapFields fun x => x.setIfInBounds 4 (Value.bool true)) ht3 rfl
  refine wpAny_bind (wpAny_holding (wpAny_runValue (codeAny_builtin entry_unchain ?_)))
  unfold Builtin.«proto.unchain»
  refine wpAny_bind (wpAny_field (i := 2) (x := Value.none) hg4 rfl h2 ?_)
  rw [if_pos (by decide)]
  refine wpAny_pure ?_
  dsimp only
  refine wpAny_bind ?_
  unfold updateField
  refine wpAny_bind (wpAny_load ht4 ?_)
  show wpAny (model prog w) A (update e2 (Obj.mapFields fun x => x.setIfInBounds 2 (Value.ref e))) _ _ _
  refine wpAny_update ht4 ?_
  refine wpAny_throw (k _ e2 ⟨fun b o hb => ?_, hm.new, t, ?_⟩)
  · have hbe : e2 ≠ b := fun q => by
      have := hm.new
      rw [q] at this
      exact absurd (hb.symm.trans this) (by simp)
    rw [Heap.get?_update_other _ _ hbe, Heap.get?_update_other _ _ hbe, Heap.get?_update_other _ _ hbe]
    exact hm.keeps b o hb
  · exact Heap.get?_update_self _ ht4 rfl
end

def Lit (h B : Heap) (e : Addr) (cls a0 c2 c3 c4 c5 fl : Value) : Prop :=
  ∃ oe T oT ts, h.get? e = some oe ∧ oe.cls = cls ∧ oe.data = .fields #[a0, .ref T, c2, c3, c4, c5] ∧ B.get? T = none ∧ T ≠ e ∧ h.get? T = some oT ∧ oT.data = .fields ts ∧ ts[3]? = some fl

theorem Lit.traced {h B : Heap} {e : Addr} {cls a0 c2 c3 c4 c5 fl : Value} (x : Lit h B e cls a0 c2 c3 c4 c5 fl) : h.TracedAtW B e cls a0 fl := by
  obtain ⟨oe, T, oT, ts, x1, x2, x3, x4, x5, x6, x7, x8⟩ := x
  exact ⟨oe, _, T, oT, ts, x1, ⟨x2, rfl⟩, x3, rfl, x4, x5, x6, x7, x8⟩

structure Inv (B : Heap) (l : List Env) (L : Addr) (h1 : Heap) (m : Str → Option Value) (h : Heap) : Prop where
  stays : B.StaysIn h
  frames : h.FunFrames B l
  ns : h.Ns L m
  slots : ∀ b o, b ≠ L → h1.get? b = some o → (∀ vs, o.data ≠ .fields vs) → ∃ sl, h.get? b = some { o with slots := sl }

theorem Inv.step {B : Heap} {l : List Env} {L : Addr} {h1 h h' : Heap} {m : Str → Option Value} (I : Inv B l L h1 m h) (hs : B.StaysIn h') (hk : h.UpToSlots h') : Inv B l L h1 m h' :=
  ⟨hs, I.frames.of_keeps fun b o hb hn => (let ⟨_, e⟩ := hk b o hb hn; ⟨_, e, rfl⟩), hk.ns I.ns, fun b o hbL hb hn => by
    obtain ⟨sl, e⟩ := I.slots b o hbL hb hn
    obtain ⟨sl', e'⟩ := hk b _ e hn
    exact ⟨sl', e'⟩⟩

theorem funFrames_set {B : Heap} {L : Addr} {h h' : Heap} {m : Str → Option Value} (hs : Heap.SameBut L h h') (hn : h'.Ns L m) : ∀ {l : List Env}, h.FunFrames B l → h'.FunFrames B l
  | [], _ => trivial
  | _ :: _, ⟨hk, ⟨b, o, hf, hb, ho, hd⟩, hr⟩ => by
    refine ⟨hk, ?_, funFrames_set hs hn hr⟩
    by_cases q : b = L
    · obtain ⟨oL, es, ep, hL, hLd, _⟩ := hn
      exact ⟨b, oL, hf, hb, by rw [q]; exact hL, fun vs e => by rw [hLd] at e; cases e⟩
    · exact ⟨b, o, hf, hb, (hs.2 b q).trans ho, hd⟩

theorem Inv.set {B : Heap} {l : List Env} {L : Addr} {h1 h h' : Heap} {m m' : Str → Option Value} (I : Inv B l L h1 m h) (hL : B.get? L = none) (hn : h'.Ns L m') (hs : Heap.SameBut L h h') : Inv B l L h1 m' h' :=
  ⟨fun b o hb => (hs.2 b fun q => by rw [q, hL] at hb; cases hb).trans (I.stays b o hb), funFrames_set hs hn I.frames, hn, fun b o hbL hb hno => by
    obtain ⟨sl, e⟩ := I.slots b o hbL hb hno
    exact ⟨sl, (hs.2 b hbL).trans e⟩⟩

theorem Lit.set {B : Heap} {L : Addr} {h h' : Heap} {m : Str → Option Value} {e : Addr} {cls a0 c2 c3 c4 c5 fl : Value} (x : Lit h B e cls a0 c2 c3 c4 c5 fl) (hn : h.Ns L m) (hs : Heap.SameBut L h h') : Lit h' B e cls a0 c2 c3 c4 c5 fl := by
  obtain ⟨oe, T, oT, ts, x1, x2, x3, x4, x5, x6, x7, x8⟩ := x
  obtain ⟨oL, es, ep, hL, hLd, _⟩ := hn
  have he : e ≠ L := fun q => by
    rw [q, hL] at x1
    cases x1
    rw [hLd] at x3
    cases x3
  have hT : T ≠ L := fun q => by
    rw [q, hL] at x6
    cases x6
    rw [hLd] at x7
    cases x7
  exact ⟨oe, T, oT, ts, (hs.2 e he).trans x1, x2, x3, x4, x5, (hs.2 T hT).trans x6, x7, x8⟩

section
variable {M : Model} {A : Around} {E : Value → Shared → Prop} {s : Shared} {env : Env} {outer : List Env} {B h1 : Heap} {L e : Addr} {m : Str → Option Value} {cls a0 c2 c3 c4 c5 fl : Value}

theorem flight {fr : Option Addr} {Q : Unit → Shared → Prop} {l : List Env} (I : Inv B l L h1 m s.heap) (Lt : Lit s.heap B e cls a0 c2 c3 c4 c5 fl)
    (k : ∀ h', Inv B l L h1 m h' → s.heap.UpToSlots h' → Lit h' B e cls a0 c2 c3 c4 c5 (fr.elim .none fun f => rawInt f) → Q () { s with heap := h' }) : wpAny M A (setFlight (.ref e) fr) Q E s := by
  obtain ⟨oe, T, oT, ts, x1, x2, x3, x4, x5, x6, x7, x8⟩ := Lt
  have hsz : 3 < ts.size := (Array.getElem?_eq_some_iff.mp x8).1
  unfold setFlight
  refine wpAny_bind (wpAny_field x1 x3 (x := .ref T) rfl ?_)
  rw [if_pos (show (Value.ref T != Value.none) = true from by simp)]
  have other : ∀ b, b ≠ T → (s.heap.update T (Obj.mapFields (·.setIfInBounds 3 (fr.elim Value.none fun f => rawInt f)))).get? b = s.heap.get? b := fun b hb => Heap.get?_update_other _ _ (Ne.symm hb)
  have up : s.heap.UpToSlots (s.heap.update T (Obj.mapFields (·.setIfInBounds 3 (fr.elim Value.none fun f => rawInt f)))) := fun b o hb hn =>
    ⟨o.slots, (other b fun q => by rw [q, x6] at hb; injection hb with hb; subst hb; exact hn ts x7).trans hb⟩
  have st : B.StaysIn (s.heap.update T (Obj.mapFields (·.setIfInBounds 3 (fr.elim Value.none fun f => rawInt f)))) := fun b o hb =>
    (other b fun q => by rw [q, x4] at hb; cases hb).trans (I.stays b o hb)
  refine wpAny_setField x6 x7 hsz (k _ (I.step st up) up ?_)
  exact ⟨oe, T, _, _, (other e (Ne.symm x5)).trans x1, x2, x3, x4, x5, Heap.get?_update_self _ x6 (Obj.isFreed_of_fields (Obj.data_mapFields x7 _)), Obj.data_mapFields x7 _, by simp [hsz]⟩

theorem note_new {oe : Obj} {Q : Unit → Shared → Prop} (hfr : A.frames = some (env :: outer)) (hf : env.frame = some L) (I : Inv B (env :: outer) L h1 m s.heap)
    (he : s.heap.get? e = some oe) (hcls : oe.cls = cls) (hd : oe.data = .fields #[a0, .none, c2, c3, c4, c5]) (hen : B.get? e = none)
    (k : ∀ h', Inv B (env :: outer) L h1 m h' → s.heap.UpToSlots h' → Lit h' B e cls a0 c2 c3 c4 c5 (rawInt L) → Q () { s with heap := h' }) : wpAny M A (noteFrame (.ref e) env) Q E s := by
  unfold noteFrame
  simp only [hf]
  refine wpAny_bind (wpAny_field he hd (x := .none) rfl ?_)
  rw [if_neg (by decide)]
  have hene : e ∉ (env :: outer).filterMap (·.frame) := fun hm => by
    obtain ⟨_, o, ho, hnf⟩ := I.frames.mem hm
    rw [he] at ho
    injection ho with ho
    subst ho
    exact hnf _ hd
  refine wpAny_bind (wpAny_frameOf_fun hfr I.frames hf fun h₁ hs₁ => ?_)
  refine wpAny_bind (wpAny_entryPlaceOf fun pl hpl => ?_)
  unfold EntryCells.newEntry newFields
  refine wpAny_bind (wpAny_newObj_type ?_ (hpl.sizeOk5 _ _ _ _ _))
  have he₁ : h₁.get? e = some oe := (hs₁.2.1 e hene).trans he
  have kb₁ : B.StaysIn h₁ := fun b o hb => (hs₁.2.1 b fun hm => by rw [(I.frames.mem hm).1] at hb; cases hb).trans (I.stays b o hb)
  refine wpAny_setField (Heap.get?_push_of_some _ he₁) hd (by simp) ?_
  have hTe : h₁.objs.size ≠ e := Nat.ne_of_gt (Heap.lt_size he₁)
  refine k _ (I.step ?_ ?_) ?_ ⟨_, h₁.objs.size, _, _, Heap.get?_update_self _ (Heap.get?_push_of_some _ he₁) (Obj.isFreed_of_fields (Obj.data_mapFields hd _)), (Obj.cls_mapFields _ _).trans hcls, (Obj.data_mapFields hd _).trans rfl, kb₁.fresh, hTe,
    (Heap.get?_update_other _ _ (Ne.symm hTe)).trans (Heap.get?_push_size h₁ rfl), rfl, ?_⟩
  · intro b o hb
    rw [Heap.get?_update_other _ _ (fun q => by rw [← q, hen] at hb; cases hb)]
    exact Heap.get?_push_of_some _ (kb₁ b o hb)
  · intro b o hb hn
    obtain ⟨sl, e'⟩ := hs₁.2.2 b o hb
    refine ⟨sl, ?_⟩
    rw [Heap.get?_update_other _ _ (fun q => by rw [← q, he] at hb; injection hb with hb; subst hb; exact hn _ hd)]
    exact Heap.get?_push_of_some _ e'
  · intro b o hb hn
    obtain ⟨sl, e'⟩ := hs₁.2.2 b o hb
    refine ⟨sl, ?_⟩
    rw [Heap.get?_update_other _ _ (fun q => by rw [← q, he] at hb; injection hb with hb; subst hb; exact hn _ hd)]
    exact Heap.get?_push_of_some _ e'
  · simp

theorem note_again {Q : Unit → Shared → Prop} (hf : env.frame = some L) (Lt : Lit s.heap B e cls a0 c2 c3 c4 c5 (rawInt L)) (k : Q () s) : wpAny M A (noteFrame (.ref e) env) Q E s :=
  wpAny_noteFrame_againW hf Lt.traced k
end

def Kept (base g : Heap) (env : Env) (outer : List Env) (L e : Addr) (news : List (Addr × Obj)) (h : Heap) : Prop :=
  ∃ B a0, base.StaysIn B ∧ (∀ b o, g.get? b = some o → b ∉ outer.filterMap (·.frame) → B.get? b = some o) ∧
    (∀ q ∈ news, B.get? q.1 = some q.2 ∧ g.get? q.1 = none ∧ base.get? q.1 = none) ∧ Heap.HeldW B (env :: outer) e (.type "ValueError") a0 L h ∧ g.UpToSlots h

section
variable {prog : Program} {w : World} {A₀ : Around} {E : Value → Shared → Prop} {s' : Shared} {base g h1 : Heap} {outer : List Env} {L a e : Addr} {m mg mb : Str → Option Value} {name : Str} {scope : Scope} {cd : Value}
  {news : List (Addr × Obj)} {KF : Frag} {p : Program} {loose : List Str}

theorem leave_kept {M : Model} {Q : Unit → Shared → Prop} (R : Kept base g (envOf name scope L a cd) outer L e news s'.heap)
    (hQ : ∀ h', RaisedSN base g outer e (.type "ValueError") news h' → RaisedN base outer e (.type "ValueError") news h' → g.UpToSlots h' → Q () { s' with heap := h' }) :
    wpAny M (A₀.deeper (envOf name scope L a cd)) (leaving (envOf name scope L a cd) (.ref e)) Q E s' := by
  obtain ⟨B, a0, hB, hg, hl, hh, hu⟩ := R
  unfold leaving
  refine wpAny_bind (wpAny_noteFrame_againW rfl hh.2.2.2 ?_)
  refine wpAny_landsW hh fun h' hfl hup => ?_
  obtain ⟨k1, k2, ⟨_, _, k3⟩, k4⟩ := hfl
  have R : RaisedSN base g outer e (.type "ValueError") news h' := ⟨B, a0, hB, hg, hl, k1, k2, k3, k4⟩
  exact hQ h' R R.toN (hu.trans hup)

set_option maxHeartbeats 2000000 in
theorem own_raise {n : Str} {np np2 np3 rp pos : Pos} {Q : Flow → Shared → Prop} (K : Below A₀ base outer g) (hx : Heap.NewExc h1 s'.heap e "AssertionError") (F : Fr g L h1 m) (N : News g L h1 news)
    (XB : KF.In base) (TB : TopRead p loose mg mb base) (ex : nsIn KF mainGlobals "AssertionError" = some none) (ex2 : nsIn KF mainGlobals "ValueError" = some none)
    (hk : scope.kind = .function) (hAx : (envOf name scope L a cd).kindOf "AssertionError" = some .globalImplicit) (hVx : (envOf name scope L a cd).kindOf "ValueError" = some .globalImplicit)
    (hl : (envOf name scope L a cd).kindOf n = some .local) (hdn : (n == ("__debug__" : Str)) = false)
    (k : ∀ h' e2 tk, Kept base g (envOf name scope L a cd) outer L e2 news h' → E (.ref e2) { s' with heap := h', toks := tk }) :
    wpAny (model prog w) (A₀.deeper (envOf name scope L a cd)) (noteFrame (.ref e) (envOf name scope L a cd))
      (fun _ s₂ => wpAny (model prog w) (A₀.deeper (envOf name scope L a cd)) (setFlight (.ref e) none) (fun _ s₃ =>
        wpAny (model prog w) (A₀.deeper (envOf name scope L a cd)) (handleBy (.ref e) (envOf name scope L a cd)
          [.ExceptHandler (some (.Name "AssertionError" np)) (some n) [.Raise (some (.Name "ValueError" np2)) (some (.Name n np3)) rp] pos]) Q E s₃) E s₂) E s' := by
  have K' := K.push (name := name) (a := a) (cd := cd) F hk
  have hin : ∀ env ∈ (envOf name scope L a cd :: outer), ∀ b, env.frame = some b → b ∈ (envOf name scope L a cd :: outer).filterMap (·.frame) := fun env he b hb => List.mem_filterMap.mpr ⟨env, he, hb⟩
  have hB1 : ∀ b o, h1.get? b = some o → b ∉ (envOf name scope L a cd :: outer).filterMap (·.frame) → (hideAll h1 ((envOf name scope L a cd :: outer).filterMap (·.frame))).get? b = some o := fun b o q nm => hideAll_get _ q nm
  have st : base.StaysIn (hideAll h1 ((envOf name scope L a cd :: outer).filterMap (·.frame))) := fun b o q => hideAll_get _ (K'.stays b o q) fun hm => by
    rw [(K'.frames.mem hm).1] at q; cases q
  have sg : ∀ b o, g.get? b = some o → b ∉ outer.filterMap (·.frame) → (hideAll h1 ((envOf name scope L a cd :: outer).filterMap (·.frame))).get? b = some o := fun b o q nm => hideAll_get _ (F.keep b o q) fun hm => by
    rcases kts_mem hm with z | z
    · rw [z, kts_self F] at q
      cases q
    · exact nm z
  have hln : ∀ q ∈ news, (hideAll h1 ((envOf name scope L a cd :: outer).filterMap (·.frame))).get? q.1 = some q.2 ∧ g.get? q.1 = none ∧ base.get? q.1 = none := fun q hq => by
    refine ⟨hideAll_get _ (N q hq).1 fun hm => ?_, (N q hq).2.2, fresh_of_stays K.stays (N q hq).2.2⟩
    rcases kts_mem hm with z | z
    · exact (N q hq).2.1 z
    · obtain ⟨o, ho, _⟩ := (K.frames.mem z).2
      rw [(N q hq).2.2] at ho
      cases ho
  obtain ⟨ob, tp, he, hcls, hd⟩ := hx.there
  have hen : (hideAll h1 ((envOf name scope L a cd :: outer).filterMap (·.frame))).get? e = none := by
    cases q : (hideAll h1 ((envOf name scope L a cd :: outer).filterMap (·.frame))).get? e with
    | none => rfl
    | some o => have := of_hideAll _ q; rw [hx.new] at this; cases this
  have hLB : (hideAll h1 ((envOf name scope L a cd :: outer).filterMap (·.frame))).get? L = none := hideAll_none _ (hin _ (.head _) L rfl)
  generalize hBdef : hideAll h1 ((envOf name scope L a cd :: outer).filterMap (·.frame)) = B at *
  have I0 : Inv B (envOf name scope L a cd :: outer) L h1 m s'.heap := by
    refine ⟨fun b o hb => hx.keeps b o (of_hideAll _ (hBdef ▸ hb)), ?_, (Heap.UpToSlots.of_keeps hx.keeps).ns F.ns, fun b o _ hb hno => ⟨o.slots, hx.keeps b o hb⟩⟩
    rw [← hBdef]
    exact (funFrames_hide K'.frames hin).of_keeps fun b o hb _ => ⟨o, hx.keeps b o hb, rfl⟩
  have up0 : h1.UpToSlots s'.heap := Heap.UpToSlots.of_keeps hx.keeps
  have gUp : ∀ {m' h'}, Inv B (envOf name scope L a cd :: outer) L h1 m' h' → g.UpToSlots h' := fun I b o hb hno =>
    I.slots b o (fun q => by rw [q, kts_self F] at hb; cases hb) (F.keep b o hb) hno
  refine note_new K'.stack rfl I0 he hcls hd hen fun H1 I1 u1 t1 => ?_
  refine flight I1 t1 fun H2 I2 u2 t2 => ?_
  have up2 : h1.UpToSlots H2 := up0.trans (u1.trans u2)
  obtain ⟨g2, T2, F2, K2⟩ := kts_ground K F hB1 I2.stays up2
  have X2 := XB.keeps K2.stays
  have TR2 : TopRead p loose mg mb g2 := TB.keeps K2.stays
  refine wpAny_handleBy_builtin_as (X := "AssertionError") (T := "AssertionError") (b := true) PySem.F.isExc_AssertionError PySem.F.notTuple_AssertionError (by rw [isSubtype_type]; kernel_rfl) ?_
  refine name_B F2 X2 TR2 ex PyProof.Rows.Boot.«AssertionError» (by decide) ⟨rfl, ?_, ?_⟩ hk hAx
  · obtain ⟨oe, _, _, _, x1, x2, _⟩ := t2
    exact ⟨oe, x1, x2⟩
  rw [if_pos rfl]
  refine flight I2 t2 fun H3 I3 u3 t3 => ?_
  have hp : ((envOf name scope L a cd).scope.kind == .class || ((envOf name scope L a cd).scope.kind == .module && (envOf name scope L a cd).locals != (envOf name scope L a cd).globals)) = false := by
    show (scope.kind == .class || (scope.kind == .module && L != mainGlobals)) = false
    rw [hk]
    rfl
  obtain ⟨g3, T3, F3, K3⟩ := kts_ground K F hB1 I3.stays (up2.trans u3)
  refine wpAny_storeName_local hl I3.ns (fun H4 n4 s4 => ?_) hp
  have I4 := I3.set hLB n4 s4
  have t4 := t3.set I3.ns s4
  have F4 := F3.set n4 s4
  have X3 := XB.keeps K3.stays
  have TR3 : TopRead p loose mg mb g3 := TB.keeps K3.stays
  obtain ⟨oe, T, oT, ts, x1, x2, x3, _⟩ := t4
  refine wpAny_execs_cons (raise_from rfl x1 x2 x3 rfl (fun Q E hq => name_B F4 X3 TR3 ex2 PyProof.Rows.Boot.«ValueError» (by decide) hq hk hVx) (fun Q E hq => ld F4 (if_pos rfl) hq hk hl hdn) fun H5 e2 m5 => ?_)
  obtain ⟨t, ht⟩ := m5.there
  have he2 : B.get? e2 = none := by
    cases q : B.get? e2 with
    | none => rfl
    | some o => have := I4.stays _ _ q; rw [m5.new] at this; cases this
  have I5 : Inv B (envOf name scope L a cd :: outer) L h1 _ H5 := I4.step (fun b o hb => m5.keeps b o (I4.stays b o hb)) (Heap.UpToSlots.of_keeps m5.keeps)
  refine note_new (A := (A₀.deeper (envOf name scope L a cd)).mark (some (.ref e))) K'.stack rfl I5 ht rfl rfl he2 fun H6 I6 u6 t6 => ?_
  refine wpAny_nameGoes hl I6.ns hp fun H7 m7 n7 s7 => ?_
  have I7 := I6.set hLB n7 s7
  have t7 := t6.set I6.ns s7
  unfold PySem.passOn
  obtain ⟨o7, T7, oT7, ts7, y1, y2, y3, y4, y5, y6, y7, y8⟩ := t7
  refine wpAny_bind (wpAny_field y1 y3 (x := .ref T7) rfl ?_)
  rw [if_neg (show ¬ ((Value.ref T7 == Value.none) = true) from by simp)]
  refine wpAny_bind (flight I7 ⟨o7, T7, oT7, ts7, y1, y2, y3, y4, y5, y6, y7, y8⟩ fun H8 I8 u8 t8 => ?_)
  refine wpAny_throw ?_
  unfold notedBy
  refine note_again rfl t8 ?_
  unfold cameBackBy
  obtain ⟨o8, T8, oT8, ts8, z1, z2, z3, z4, z5, z6, z7, z8⟩ := t8
  refine wpAny_bind (wpAny_field z1 z3 (x := .ref T8) rfl ?_)
  rw [if_neg (show ¬ ((Value.ref T8 == Value.none) = true) from by simp)]
  refine flight I8 ⟨o8, T8, oT8, ts8, z1, z2, z3, z4, z5, z6, z7, z8⟩ fun H9 I9 u9 t9 => ?_
  exact k H9 e2 _ ⟨B, _, st, sg, hln, ⟨I9.stays, he2, I9.frames, t9.traced⟩, gUp I9⟩
end
end

-- the head, once
set_option maxRecDepth 100000
set_option maxHeartbeats 8000000
open_top hd6004 for PySem.Challenge.rw_aq6004_01

noncomputable abbrev LO : List PySem.Str := looseW hd6004.view_39 [Str.ofString "_valid_date", Str.ofString "to_jd", Str.ofString "month_length"]

def leapF (y : Int) : Bool := decide (533 ≤ y ∧ y % 4 = 0)
def lastF (p y m : Int) : Int := if m < 13 then 30 else if 4 ≤ p ∧ y % 4 = 0 then 6 else 5
def dueF (p y m d : Int) : Bool := decide (1 ≤ m ∧ m ≤ 13 ∧ ((4 ≤ p ∧ 533 ≤ y) ∨ (p < 4 ∧ 1 ≤ y)) ∧ 1 ≤ d ∧ ((m < 13 ∧ d ≤ 30) ∨ (m = 13 ∧ d ≤ 5) ∨ (m = 13 ∧ 4 ≤ p ∧ y % 4 = 0 ∧ d ≤ 6)))

noncomputable abbrev Plain1 (w : World) (mean : ExcName → Option Value) (mg mb : PySem.Str → Option Value) (f : Addr) (pre : Prop) (vs : List Value) (R : Tok → Value) : Prop :=
  ∀ (dp un : Nat) (gd : Option (List Code)) (cn : PySem.Str) (cs : Scope) (a : Addr) (ccd : Value) (cl : List (PySem.Str × Addr)) (outer : List Env) (A₀ : Around) (base h₀ : Heap) (L : Addr) (m : PySem.Str → Option Value) (news : List (Addr × Obj)) (s : Shared) (Q E : Value → Shared → Prop),
    Below A₀ base outer h₀ → Fr h₀ L s.heap m → (hd6004.heap_39 w.params).In h₀ → News h₀ L s.heap news → Top hd6004.view_39 LO mean mg mb h₀ → cs.kind = .function → pre → dp + 3 < recursionLimit → un + 30 < cLine →
      CbRet h₀ L m news s Q R → wpAny (model PySem.Challenge.rw_aq6004_01.row.prog w) (ktrTop dp un gd cn cs L a ccd cl outer) (call (.ref f) vs) Q E s

-- the small defs: leap, _law_last, _law_due, trunc
section
local macro_rules | `(tactic| k_room) => `(tactic| ktr_room)
local macro_rules | `(tactic| walk_at "no such key of the walk") => `(tactic| fail)
local macro_rules | `(tactic| walk_at "no such key of the walk") => `(tactic| fail)
set_option maxRecDepth 100000 in
set_option maxHeartbeats 8000000 in
theorem leap_ok (w : World) (mean : ExcName → Option Value) (mg mb : PySem.Str → Option Value) (y : Int) (t : Tok) : Plain1 w mean mg mb 36 True [.int y t] (fun _ => .bool (leapF y)) := by
  unfold Plain1 leapF
  k_fill
  w_top off
  intro dp un gd cn cs a ccd cl outer A₀ base h₀ L m news s Q E B F X N T hk hpre hdp hun hret
  refine wpAny_call ?_
  k_dflt cell_enter
  k_steps
  all_goals cb_end hret
set_option maxRecDepth 100000 in
set_option maxHeartbeats 8000000 in
theorem last_ok (w : World) (mean : ExcName → Option Value) (mg mb : PySem.Str → Option Value) (p y mo : Int) (t t1 t2 : Tok) : Plain1 w mean mg mb 75 True [.int p t, .int y t1, .int mo t2] (fun t => .int (lastF p y mo) t) := by
  unfold Plain1 lastF
  k_fill
  w_top off
  intro dp un gd cn cs a ccd cl outer A₀ base h₀ L m news s Q E B F X N T hk hpre hdp hun hret
  refine wpAny_call ?_
  k_dflt cell_enter
  k_steps
  all_goals cb_end hret
set_option maxRecDepth 100000 in
set_option maxHeartbeats 8000000 in
theorem due_ok (w : World) (mean : ExcName → Option Value) (mg mb : PySem.Str → Option Value) (p y mo d : Int) (t t1 t2 t3 : Tok) : Plain1 w mean mg mb 82 True [.int p t, .int y t1, .int mo t2, .int d t3] (fun _ => .bool (dueF p y mo d)) := by
  unfold Plain1 dueF
  k_fill
  w_top off
  intro dp un gd cn cs a ccd cl outer A₀ base h₀ L m news s Q E B F X N T hk hpre hdp hun hret
  refine wpAny_call ?_
  k_dflt cell_enter
  k_steps
  all_goals cb_end hret
set_option maxRecDepth 100000 in
set_option maxHeartbeats 8000000 in
theorem trunc_ok (w : World) (mean : ExcName → Option Value) (mg mb : PySem.Str → Option Value) (x : Int) (t t1 : Tok) : Plain1 w mean mg mb 21 (0 ≤ x) [.int x t, .int 4 t1] (fun t => .int (x / 4) t) := by
  unfold Plain1
  k_fill
  intro dp un gd cn cs a ccd cl outer A₀ base h₀ L m news s Q E B F X N T hk hpre hdp hun hret
  refine wpAny_call ?_
  k_dflt cell_enter
  k_steps
  all_goals cb_end hret
end


abbrev RetB (h₀ : Heap) (L : Addr) (m : PySem.Str → Option Value) (news : List (Addr × Obj)) (s : Shared) (Q : Value → Shared → Prop) (v : Value) : Prop :=
  ∀ (h' : Heap) (tk' : Nat), Fr h₀ L h' m → News h₀ L h' news → Q v { s with heap := h', toks := tk' }
theorem due_true {p y m d : Int} (h : 1 ≤ m ∧ m ≤ 13 ∧ ((4 ≤ p ∧ 533 ≤ y) ∨ (p < 4 ∧ 1 ≤ y)) ∧ 1 ≤ d ∧ ((m < 13 ∧ d ≤ 30) ∨ (m = 13 ∧ d ≤ 5) ∨ (m = 13 ∧ 4 ≤ p ∧ y % 4 = 0 ∧ d ≤ 6))) : dueF p y m d = true := decide_eq_true h
theorem due_not {p y m d : Int} (h : ¬ (1 ≤ m ∧ m ≤ 13 ∧ ((4 ≤ p ∧ 533 ≤ y) ∨ (p < 4 ∧ 1 ≤ y)) ∧ 1 ≤ d ∧ ((m < 13 ∧ d ≤ 30) ∨ (m = 13 ∧ d ≤ 5) ∨ (m = 13 ∧ 4 ≤ p ∧ y % 4 = 0 ∧ d ≤ 6)))) : ¬ dueF p y m d = true := fun q => h (of_decide_eq_true q)
theorem due_says {p y m d : Int} (h : dueF p y m d = true) : 1 ≤ m ∧ m ≤ 13 ∧ ((4 ≤ p ∧ 533 ≤ y) ∨ (p < 4 ∧ 1 ≤ y)) := let q := of_decide_eq_true h; ⟨q.1, q.2.1, q.2.2.1⟩
theorem leap_true {y : Int} (h : leapF y = true) : 533 ≤ y ∧ y % 4 = 0 := of_decide_eq_true h
theorem leap_not {y : Int} (h : leapF y = false) : ¬ (533 ≤ y ∧ y % 4 = 0) := of_decide_eq_false h
theorem last_val (w : World) (mean : ExcName → Option Value) (mg mb : PySem.Str → Option Value) (p y mo : Int) (t t1 t2 : Tok) (v : Int) (h : lastF p y mo = v) : Plain1 w mean mg mb 75 True [.int p t, .int y t1, .int mo t2] (fun t => .int v t) := h ▸ last_ok w mean mg mb p y mo t t1 t2
theorem leap_val (w : World) (mean : ExcName → Option Value) (mg mb : PySem.Str → Option Value) (y : Int) (t : Tok) (b : Bool) (h : leapF y = b) : Plain1 w mean mg mb 36 True [.int y t] (fun _ => .bool b) := h ▸ leap_ok w mean mg mb y t
theorem last30 {p y m : Int} (h : m < 13) : lastF p y m = 30 := if_pos h
theorem last6 {p y m : Int} (h : ¬ m < 13) (h4 : 4 ≤ p ∧ y % 4 = 0) : lastF p y m = 6 := (if_neg h).trans (if_pos h4)
theorem last5 {p y m : Int} (h : ¬ m < 13) (h4 : ¬ (4 ≤ p ∧ y % 4 = 0)) : lastF p y m = 5 := (if_neg h).trans (if_neg h4)
theorem leapT {y : Int} (h : 533 ≤ y ∧ y % 4 = 0) : leapF y = true := decide_eq_true h
theorem leapN {y : Int} (h : ¬ (533 ≤ y ∧ y % 4 = 0)) : leapF y = false := decide_eq_false h
theorem fm4 (y : Int) : y.fmod 4 = y % 4 := Int.fmod_eq_emod_of_nonneg y (by decide)
theorem fmE {y : Int} (h : y.fmod 4 = 0) : y % 4 = 0 := (fm4 y).symm.trans h
theorem fmN {y : Int} (h : y.fmod 4 ≠ 0) : y % 4 ≠ 0 := fun q => h ((fm4 y).trans q)
theorem ret_b {Q : Value → Shared → Prop} {s : Shared} {b : Bool} (h : b = true) (k : Q (.bool true) s) : Q (.bool b) s := by rw [h]; exact k
theorem eqB {a b : Int} (h : a = b) : (a == b) = true := by rw [h]; exact beq_self_eq_true b
theorem ite_neF {a b : Bool} {P Q : Prop} (h : a = b) (k : Q) : ite ((a != b) = true) P Q := by rw [if_neg (by simp [h])]; exact k
theorem leapA {y : Int} (h : y % 4 = 0) : true = (y.fmod 4 == 0) := (eqB ((fm4 y).trans h)).symm
theorem leapB {y : Int} (h : ¬ y % 4 = 0) : false = (y.fmod 4 == 0) := by
  cases q : (y.fmod 4 == 0) with
  | false => rfl
  | true => exact absurd ((fm4 y).symm.trans (eq_of_beq q)) h
theorem leapC {y : Int} (h : ¬ 533 ≤ y) : false = decide (533 ≤ y) := (decide_eq_false h).symm
theorem ite_eqT {a b : Int} {P Q : Prop} (h : a = b) (k : P) : ite ((a == b) = true) P Q := by rw [if_pos (by simpa using h)]; exact k
theorem ite_eqF {a b : Int} {P Q : Prop} (h : ¬ a = b) (k : Q) : ite ((a == b) = true) P Q := by rw [if_neg (by simpa using h)]; exact k
noncomputable abbrev OnLaw (w : World) (f : Addr) (vs : List Value) (v : Value) : Prop :=
  ∀ (base h₀ : Heap) (L : Addr) (m : PySem.Str → Option Value) (news : List (Addr × Obj)) (s : Shared) (mean : ExcName → Option Value) (mg mb : PySem.Str → Option Value)
    (cn : PySem.Str) (ns : List (PySem.Str × NameKind)) (ig ic : Bool) (a : Addr) (ccd : Value) (Q E : Value → Shared → Prop),
    Below callerA base [] h₀ → Fr h₀ L s.heap m → (hd6004.heap_39 w.params).In h₀ → News h₀ L s.heap news → Top hd6004.view_39 LO mean mg mb h₀ →
    (hd6004.heap_39 w.params).In base → Top hd6004.view_39 LO mean mg mb base → RetB h₀ L m news s Q v →
    wpAny (model PySem.Challenge.rw_aq6004_01.row.prog w) (callerA.deeper (envOf cn { kind := .function, names := ns, isGenerator := ig, isCoroutine := ic, more := [] } L a ccd)) (call (.ref f) vs) Q E s

-- _law_right, word by word
section
local macro_rules | `(tactic| walk_at "noteFrame ref") => `(tactic| (k_here; k_dflt (refine' own_raise ?K ?x ?F ?N ?XB ?TB ?ex ?ex2 ?hk ?hA ?hV ?hl ?hd ?_; (case x => first | assumption | exact Heap.MadeExc.newExc (by assumption)); (case K => assumption); (case F => k_asm); (case N => k_asm); (case XB => assumption); (case TB => exact topRead_of (by assumption)); (case ex => k_is); (case ex2 => k_is); (case hk => exact rfl); (case hA => exact rfl); (case hV => exact rfl); (case hl => exact rfl); (case hd => decide); k_whole); intro h' e' tk' rsR; (try dsimp only at rsR ⊢)))
local macro_rules | `(tactic| walk_at "leaving ref") => `(tactic| (k_here; (with_reducible rename Mine.Kept _ _ _ _ _ _ _ _ => rsK); k_dflt (refine' leave_kept ?R ?_; (case R => assumption); k_whole); clear rsK; intro h' S' R' U'; (try dsimp only at S' R' U' ⊢)))
local macro_rules | `(tactic| walk_at "noteFrame ref") => `(tactic| (k_here; (rename RaisedSN _ _ _ _ _ _ _ => rsX); k_dflt (refine' caught_SN0 (T' := "ValueError") ?R ?F ?K ?U ?XB ?TB ?D ?T0 ?ex PyProof.Rows.Boot.«ValueError» ?hn PySem.F.isExc_ValueError PySem.F.notTuple_ValueError PySem.F.excCall_ValueError.sub ?_; (case R => assumption); (case F => assumption); (case K => assumption); (case U => assumption); (case XB => assumption); (case TB => assumption); (case D => assumption); (case T0 => first | assumption | exact KtsTurn.refl); (case ex => k_is); (case hn => decide); k_whole); intro h' g' T' F' N' K' X' P' D'; (try k_lift K'); (try k_sweep)))
local macro_rules | `(tactic| walk_at "call ref") => `(tactic| (k_here; (with_reducible show wpAny _ _ (call (Value.ref 36) _) _ _ _); k_dflt (refine' (leap_ok _ _ _ _ _ _) _ _ _ _ _ _ _ _ _ _ _ _ _ _ _ _ _ _ ?k1 ?k2 ?k3 ?k4 ?k5 ?kK trivial ?kd ?ku ?_; (case k1 => k_asm); (case k2 => k_asm); (case k3 => k_asm); (case k4 => k_asm); (case k5 => k_asm); (case kK => first | exact rfl | assumption); (case kd => ktr_room); (case ku => ktr_units); k_whole); intro t9 h9 tk9 F9 N9; (try dsimp only); (try k_fold)))
local macro_rules | `(tactic| walk_at "call ref") => `(tactic| (k_here; (with_reducible show wpAny _ _ (call (Value.ref 82) _) _ _ _); k_dflt (refine' (due_ok _ _ _ _ _ _ _ _ _ _ _ _) _ _ _ _ _ _ _ _ _ _ _ _ _ _ _ _ _ _ ?k1 ?k2 ?k3 ?k4 ?k5 ?kK trivial ?kd ?ku ?_; (case k1 => k_asm); (case k2 => k_asm); (case k3 => k_asm); (case k4 => k_asm); (case k5 => k_asm); (case kK => first | exact rfl | assumption); (case kd => ktr_room); (case ku => ktr_units); k_whole); intro t9 h9 tk9 F9 N9; (try dsimp only); (try k_fold)))
local macro_rules | `(tactic| walk_at "ite") => `(tactic| ((with_reducible show ite (Mine.dueF _ _ _ _ = true) _ _); (try (rename Mine.leapF _ = true => hlf; have hlf' := Mine.leap_true hlf)); (try (rename Mine.leapF _ = false => hlf; have hlf' := Mine.leap_not hlf)); first | (rw [if_pos (due_true (by omega))]) | (rw [if_neg (due_not (by omega))])))
local macro_rules | `(tactic| walk_at "eval Call Name") => `(tactic| (refine Call_ ?_))
local macro_rules | `(tactic| walk_at "call ref") => `(tactic| (k_here; (with_reducible show wpAny _ _ (call (Value.ref 89) _) _ _ _); k_dflt (refine wpAny_call ?_; kts_go)))
local macro_rules | `(tactic| walk_at "call ref") => `(tactic| (k_here; (with_reducible show wpAny _ _ (call (Value.ref 29) _) _ _ _); k_dflt (refine wpAny_call ?_; kts_go)))
local macro_rules | `(tactic| walk_at "no such key of the walk") => `(tactic| fail)
local macro_rules | `(tactic| walk_at "no such key of the walk") => `(tactic| fail)
local macro_rules | `(tactic| walk_at "no such key of the walk") => `(tactic| fail)
local macro_rules | `(tactic| walk_at "no such key of the walk") => `(tactic| fail)
local macro_rules | `(tactic| walk_at "no such key of the walk") => `(tactic| fail)
set_option maxRecDepth 100000 in
set_option maxHeartbeats 8000000 in
theorem right_0 (w : World) (y mo d : Int) (t1 t2 t3 t4 : Tok) : OnLaw w 96 [.int 0 t1, .int y t2, .int mo t3, .int d t4] (.bool true) := by
  unfold OnLaw
  k_fill
  w_top off
  intro base h₀ L m news s mean mg mb cn ns ig ic a ccd Q E B F X N T XB TB hret
  refine wpAny_call ?_
  k_dflt kts_go
  k_steps
  all_goals first | exact hret _ _ (by assumption) (by assumption) | (exfalso; omega)
set_option maxRecDepth 100000 in
set_option maxHeartbeats 8000000 in
theorem right_1 (w : World) (y mo d : Int) (t1 t2 t3 t4 : Tok) : OnLaw w 96 [.int 1 t1, .int y t2, .int mo t3, .int d t4] (.bool true) := by
  unfold OnLaw
  k_fill
  w_top off
  intro base h₀ L m news s mean mg mb cn ns ig ic a ccd Q E B F X N T XB TB hret
  refine wpAny_call ?_
  k_dflt kts_go
  k_steps
  all_goals first | exact hret _ _ (by assumption) (by assumption) | (exfalso; omega)
set_option maxRecDepth 100000 in
set_option maxHeartbeats 8000000 in
theorem right_2 (w : World) (y mo d : Int) (t1 t2 t3 t4 : Tok) : OnLaw w 96 [.int 2 t1, .int y t2, .int mo t3, .int d t4] (.bool true) := by
  unfold OnLaw
  k_fill
  w_top off
  intro base h₀ L m news s mean mg mb cn ns ig ic a ccd Q E B F X N T XB TB hret
  refine wpAny_call ?_
  k_dflt kts_go
  k_steps
  all_goals first | exact hret _ _ (by assumption) (by assumption) | (exfalso; omega)
set_option maxRecDepth 100000 in
set_option maxHeartbeats 8000000 in
theorem right_3 (w : World) (y mo d : Int) (t1 t2 t3 t4 : Tok) : OnLaw w 96 [.int 3 t1, .int y t2, .int mo t3, .int d t4] (.bool true) := by
  unfold OnLaw
  k_fill
  w_top off
  intro base h₀ L m news s mean mg mb cn ns ig ic a ccd Q E B F X N T XB TB hret
  refine wpAny_call ?_
  k_dflt kts_go
  k_steps
  all_goals first | exact hret _ _ (by assumption) (by assumption) | (exfalso; omega)
set_option maxRecDepth 100000 in
set_option maxHeartbeats 8000000 in
theorem right_4 (w : World) (y mo d : Int) (t1 t2 t3 t4 : Tok) : OnLaw w 96 [.int 4 t1, .int y t2, .int mo t3, .int d t4] (.bool true) := by
  unfold OnLaw
  k_fill
  w_top off
  intro base h₀ L m news s mean mg mb cn ns ig ic a ccd Q E B F X N T XB TB hret
  refine wpAny_call ?_
  k_dflt kts_go
  k_steps
  all_goals first | exact hret _ _ (by assumption) (by assumption) | (exfalso; omega)
set_option maxRecDepth 100000 in
set_option maxHeartbeats 8000000 in
theorem right_5 (w : World) (y mo d : Int) (t1 t2 t3 t4 : Tok) : OnLaw w 96 [.int 5 t1, .int y t2, .int mo t3, .int d t4] (.bool true) := by
  unfold OnLaw
  k_fill
  w_top off
  intro base h₀ L m news s mean mg mb cn ns ig ic a ccd Q E B F X N T XB TB hret
  refine wpAny_call ?_
  k_dflt kts_go
  k_steps
  all_goals first | exact hret _ _ (by assumption) (by assumption) | (exfalso; omega)
set_option maxRecDepth 100000 in
set_option maxHeartbeats 8000000 in
theorem right_6 (w : World) (y mo d : Int) (t1 t2 t3 t4 : Tok) : OnLaw w 96 [.int 6 t1, .int y t2, .int mo t3, .int d t4] (.bool true) := by
  unfold OnLaw
  k_fill
  w_top off
  intro base h₀ L m news s mean mg mb cn ns ig ic a ccd Q E B F X N T XB TB hret
  refine wpAny_call ?_
  k_dflt kts_go
  k_steps
  all_goals first | exact hret _ _ (by assumption) (by assumption) | (exfalso; omega)
set_option maxRecDepth 100000 in
set_option maxHeartbeats 8000000 in
theorem right_7 (w : World) (y mo d : Int) (t1 t2 t3 t4 : Tok) : OnLaw w 96 [.int 7 t1, .int y t2, .int mo t3, .int d t4] (.bool true) := by
  unfold OnLaw
  k_fill
  w_top off
  intro base h₀ L m news s mean mg mb cn ns ig ic a ccd Q E B F X N T XB TB hret
  refine wpAny_call ?_
  k_dflt kts_go
  k_steps
  all_goals first | exact hret _ _ (by assumption) (by assumption) | (exfalso; omega)
end

-- to_jd, word by word
section
local macro_rules | `(tactic| k_room) => `(tactic| ktr_room)
local macro_rules | `(tactic| walk_at "call ref") => `(tactic| (k_here; (with_reducible show wpAny _ _ (call (Value.ref 21) _) _ _ _); k_dflt (refine' (trunc_ok _ _ _ _ _ _ _) _ _ _ _ _ _ _ _ _ _ _ _ _ _ _ _ _ _ ?k1 ?k2 ?k3 ?k4 ?k5 ?kK (by omega) ?kd ?ku ?_; (case k1 => k_asm); (case k2 => k_asm); (case k3 => k_asm); (case k4 => k_asm); (case k5 => k_asm); (case kK => first | exact rfl | assumption); (case kd => ktr_room); (case ku => ktr_units); k_whole); intro t9 h9 tk9 F9 N9; (try dsimp only); (try k_fold)))
local macro_rules | `(tactic| walk_at "call ref") => `(tactic| (k_here; (with_reducible show wpAny _ _ (call (Value.ref 36) _) _ _ _); first | (k_dflt (refine' (leap_val _ _ _ _ _ _ true (leapT (by omega))) _ _ _ _ _ _ _ _ _ _ _ _ _ _ _ _ _ _ ?k1 ?k2 ?k3 ?k4 ?k5 ?kK trivial ?kd ?ku ?_; (case k1 => k_asm); (case k2 => k_asm); (case k3 => k_asm); (case k4 => k_asm); (case k5 => k_asm); (case kK => first | exact rfl | assumption); (case kd => ktr_room); (case ku => ktr_units); k_whole); intro t9 h9 tk9 F9 N9; (try dsimp only); (try k_fold)) | (k_dflt (refine' (leap_val _ _ _ _ _ _ false (leapN (by omega))) _ _ _ _ _ _ _ _ _ _ _ _ _ _ _ _ _ _ ?k1 ?k2 ?k3 ?k4 ?k5 ?kK trivial ?kd ?ku ?_; (case k1 => k_asm); (case k2 => k_asm); (case k3 => k_asm); (case k4 => k_asm); (case k5 => k_asm); (case kK => first | exact rfl | assumption); (case kd => ktr_room); (case ku => ktr_units); k_whole); intro t9 h9 tk9 F9 N9; (try dsimp only); (try k_fold)) | (k_dflt (refine' (leap_ok _ _ _ _ _ _) _ _ _ _ _ _ _ _ _ _ _ _ _ _ _ _ _ _ ?k1 ?k2 ?k3 ?k4 ?k5 ?kK trivial ?kd ?ku ?_; (case k1 => k_asm); (case k2 => k_asm); (case k3 => k_asm); (case k4 => k_asm); (case k5 => k_asm); (case kK => first | exact rfl | assumption); (case kd => ktr_room); (case ku => ktr_units); k_whole); intro t9 h9 tk9 F9 N9; (try dsimp only); (try k_fold))))
local macro_rules | `(tactic| walk_at "eval Call Name") => `(tactic| (refine Call_ ?_))
local macro_rules | `(tactic| walk_at "call ref") => `(tactic| (k_here; (with_reducible show wpAny _ _ (call (Value.ref 29) _) _ _ _); k_dflt (refine wpAny_call ?_; (refine' code_def ?k1 ?k2 ?k3 ?k4 ?k5 ?kA ?kF ?kK ?k6 ?k7 ?k8 ?k9 ?kB ?_ ?c2 ?c3 ?c4 ?c5; (case kA => exact rfl); (case kF => exact rfl); (case kK => first | exact rfl | assumption); (case k1 => k_asm); (case k2 => k_asm); (case k3 => k_asm); (case k4 => k_asm); (case k5 => k_asm); (case k6 => k_is); (case k7 => k_is); (case k8 => ktr_room); (case k9 => first | exact binds_K (by k_in) rfl (by k_is) rfl rfl rfl | exact BindsTo.of_eq rfl); (case c5 => decide); (case kB => exact locs rfl); (case c2 => exact rfl); (case c3 => exact rfl); (case c4 => exact rfl); k_whole; intro g' L' h' FG' F' N' B' X' T'; (try dsimp only); (try k_fold)))))
local macro_rules | `(tactic| walk_at "ite") => `(tactic| (first | (with_reducible refine ite_eqT (by omega) ?_) | (with_reducible refine ite_eqF (by omega) ?_)))
local macro_rules | `(tactic| walk_at "no such key of the walk") => `(tactic| fail)
local macro_rules | `(tactic| walk_at "no such key of the walk") => `(tactic| fail)
local macro_rules | `(tactic| walk_at "no such key of the walk") => `(tactic| fail)
local macro_rules | `(tactic| walk_at "no such key of the walk") => `(tactic| fail)
local macro_rules | `(tactic| walk_at "no such key of the walk") => `(tactic| fail)
local macro_rules | `(tactic| walk_at "no such key of the walk") => `(tactic| fail)
local macro_rules | `(tactic| walk_at "no such key of the walk") => `(tactic| fail)
local macro_rules | `(tactic| walk_at "no such key of the walk") => `(tactic| fail)
local macro_rules | `(tactic| walk_at "no such key of the walk") => `(tactic| fail)
set_option maxRecDepth 100000 in
set_option maxHeartbeats 8000000 in
theorem jd_0 (w : World) (mean : ExcName → Option Value) (mg mb : PySem.Str → Option Value) (y mo d : Int) (t t1 t2 : Tok) : Plain1 w mean mg mb 44 (1 ≤ y ∧ 1 ≤ mo ∧ mo ≤ 13 ∧ 1 ≤ d ∧ (mo = 13 → d ≤ 5) ∧ d ≤ 30) [.int y t, .int mo t1, .int d t2, .none] (fun t => .int (1922502 + 365 * y + ((mo - 1) * 30 + d)) t) := by
  unfold Plain1
  k_fill
  w_top off
  intro dp un gd cn cs a ccd cl outer A₀ base h₀ L m news s Q E B F X N T hk hpre hdp hun hret
  refine wpAny_call ?_
  k_dflt (refine' code_def ?k1 ?k2 ?k3 ?k4 ?k5 ?kA ?kF ?kK ?k6 ?k7 ?k8 ?k9 ?kB ?_ ?c2 ?c3 ?c4 ?c5; (case kA => exact rfl); (case kF => exact rfl); (case kK => first | exact rfl | assumption); (case k1 => k_asm); (case k2 => k_asm); (case k3 => k_asm); (case k4 => k_asm); (case k5 => k_asm); (case k6 => k_is); (case k7 => k_is); (case k8 => ktr_room); (case k9 => first | exact binds_K (by k_in) rfl (by k_is) rfl rfl rfl | exact BindsTo.of_eq rfl); (case c5 => decide); (case kB => exact locs rfl); (case c2 => exact rfl); (case c3 => exact rfl); (case c4 => exact rfl); k_whole; intro g' L' h' FG' F' N' B' X' T'; (try dsimp only); (try k_fold))
  k_steps
  all_goals cb_end hret
set_option maxRecDepth 100000 in
set_option maxHeartbeats 8000000 in
theorem jd_1 (w : World) (mean : ExcName → Option Value) (mg mb : PySem.Str → Option Value) (y mo d : Int) (t t1 t2 tw : Tok) : Plain1 w mean mg mb 44 (1 ≤ y ∧ 1 ≤ mo ∧ mo ≤ 13 ∧ 1 ≤ d ∧ (mo = 13 → d ≤ 5) ∧ d ≤ 30) [.int y t, .int mo t1, .int d t2, .str (Str.ofString "") tw] (fun t => .int (1922502 + 365 * y + ((mo - 1) * 30 + d)) t) := by
  unfold Plain1
  k_fill
  w_top off
  intro dp un gd cn cs a ccd cl outer A₀ base h₀ L m news s Q E B F X N T hk hpre hdp hun hret
  refine wpAny_call ?_
  k_dflt (refine' code_def ?k1 ?k2 ?k3 ?k4 ?k5 ?kA ?kF ?kK ?k6 ?k7 ?k8 ?k9 ?kB ?_ ?c2 ?c3 ?c4 ?c5; (case kA => exact rfl); (case kF => exact rfl); (case kK => first | exact rfl | assumption); (case k1 => k_asm); (case k2 => k_asm); (case k3 => k_asm); (case k4 => k_asm); (case k5 => k_asm); (case k6 => k_is); (case k7 => k_is); (case k8 => ktr_room); (case k9 => first | exact binds_K (by k_in) rfl (by k_is) rfl rfl rfl | exact BindsTo.of_eq rfl); (case c5 => decide); (case kB => exact locs rfl); (case c2 => exact rfl); (case c3 => exact rfl); (case c4 => exact rfl); k_whole; intro g' L' h' FG' F' N' B' X' T'; (try dsimp only); (try k_fold))
  k_steps
  all_goals cb_end hret
set_option maxRecDepth 100000 in
set_option maxHeartbeats 8000000 in
theorem jd_2 (w : World) (mean : ExcName → Option Value) (mg mb : PySem.Str → Option Value) (y mo d : Int) (t t1 t2 tw : Tok) : Plain1 w mean mg mb 44 (1 ≤ y ∧ 1 ≤ mo ∧ mo ≤ 13 ∧ 1 ≤ d ∧ (mo = 13 → d ≤ 5) ∧ d ≤ 30) [.int y t, .int mo t1, .int d t2, .str (Str.ofString "moveable") tw] (fun t => .int (1922502 + 365 * y + ((mo - 1) * 30 + d)) t) := by
  unfold Plain1
  k_fill
  w_top off
  intro dp un gd cn cs a ccd cl outer A₀ base h₀ L m news s Q E B F X N T hk hpre hdp hun hret
  refine wpAny_call ?_
  k_dflt (refine' code_def ?k1 ?k2 ?k3 ?k4 ?k5 ?kA ?kF ?kK ?k6 ?k7 ?k8 ?k9 ?kB ?_ ?c2 ?c3 ?c4 ?c5; (case kA => exact rfl); (case kF => exact rfl); (case kK => first | exact rfl | assumption); (case k1 => k_asm); (case k2 => k_asm); (case k3 => k_asm); (case k4 => k_asm); (case k5 => k_asm); (case k6 => k_is); (case k7 => k_is); (case k8 => ktr_room); (case k9 => first | exact binds_K (by k_in) rfl (by k_is) rfl rfl rfl | exact BindsTo.of_eq rfl); (case c5 => decide); (case kB => exact locs rfl); (case c2 => exact rfl); (case c3 => exact rfl); (case c4 => exact rfl); k_whole; intro g' L' h' FG' F' N' B' X' T'; (try dsimp only); (try k_fold))
  k_steps
  all_goals cb_end hret
set_option maxRecDepth 100000 in
set_option maxHeartbeats 8000000 in
theorem jd_3 (w : World) (mean : ExcName → Option Value) (mg mb : PySem.Str → Option Value) (y mo d : Int) (t t1 t2 tw : Tok) : Plain1 w mean mg mb 44 (1 ≤ y ∧ 1 ≤ mo ∧ mo ≤ 13 ∧ 1 ≤ d ∧ (mo = 13 → d ≤ 5) ∧ d ≤ 30) [.int y t, .int mo t1, .int d t2, .str (Str.ofString "julian") tw] (fun t => .int (1922502 + 365 * y + ((mo - 1) * 30 + d)) t) := by
  unfold Plain1
  k_fill
  w_top off
  intro dp un gd cn cs a ccd cl outer A₀ base h₀ L m news s Q E B F X N T hk hpre hdp hun hret
  refine wpAny_call ?_
  k_dflt (refine' code_def ?k1 ?k2 ?k3 ?k4 ?k5 ?kA ?kF ?kK ?k6 ?k7 ?k8 ?k9 ?kB ?_ ?c2 ?c3 ?c4 ?c5; (case kA => exact rfl); (case kF => exact rfl); (case kK => first | exact rfl | assumption); (case k1 => k_asm); (case k2 => k_asm); (case k3 => k_asm); (case k4 => k_asm); (case k5 => k_asm); (case k6 => k_is); (case k7 => k_is); (case k8 => ktr_room); (case k9 => first | exact binds_K (by k_in) rfl (by k_is) rfl rfl rfl | exact BindsTo.of_eq rfl); (case c5 => decide); (case kB => exact locs rfl); (case c2 => exact rfl); (case c3 => exact rfl); (case c4 => exact rfl); k_whole; intro g' L' h' FG' F' N' B' X' T'; (try dsimp only); (try k_fold))
  k_steps
  all_goals cb_end hret
set_option maxRecDepth 100000 in
set_option maxHeartbeats 8000000 in
theorem jd_4 (w : World) (mean : ExcName → Option Value) (mg mb : PySem.Str → Option Value) (y mo d : Int) (t t1 t2 tw : Tok) : Plain1 w mean mg mb 44 (533 ≤ y ∧ 1 ≤ mo ∧ mo ≤ 13 ∧ 1 ≤ d ∧ (mo = 13 → d ≤ 6) ∧ (mo = 13 → ¬ y % 4 = 0 → d ≤ 5) ∧ d ≤ 30) [.int y t, .int mo t1, .int d t2, .str (Str.ofString "sarkawag") tw] (fun t => .int (2117211 + 365 * (y - 533) + (y - 533) / 4 + ((mo - 1) * 30 + d)) t) := by
  unfold Plain1
  k_fill
  w_top off
  intro dp un gd cn cs a ccd cl outer A₀ base h₀ L m news s Q E B F X N T hk hpre hdp hun hret
  refine wpAny_call ?_
  k_dflt (refine' code_def ?k1 ?k2 ?k3 ?k4 ?k5 ?kA ?kF ?kK ?k6 ?k7 ?k8 ?k9 ?kB ?_ ?c2 ?c3 ?c4 ?c5; (case kA => exact rfl); (case kF => exact rfl); (case kK => first | exact rfl | assumption); (case k1 => k_asm); (case k2 => k_asm); (case k3 => k_asm); (case k4 => k_asm); (case k5 => k_asm); (case k6 => k_is); (case k7 => k_is); (case k8 => ktr_room); (case k9 => first | exact binds_K (by k_in) rfl (by k_is) rfl rfl rfl | exact BindsTo.of_eq rfl); (case c5 => decide); (case kB => exact locs rfl); (case c2 => exact rfl); (case c3 => exact rfl); (case c4 => exact rfl); k_whole; intro g' L' h' FG' F' N' B' X' T'; (try dsimp only); (try k_fold))
  k_steps
  all_goals cb_end hret
end

-- _law_month_right, word by word
section
local macro_rules | `(tactic| walk_at "ite") => `(tactic| ((show ite ((_ != _) = true) _ _); first | refine ite_neF (leapA (by omega)) ?_ | refine ite_neF (leapB (by omega)) ?_ | refine ite_neF (leapC (by omega)) ?_))
local macro_rules | `(tactic| walk_at "call ref") => `(tactic| (k_here; (with_reducible show wpAny _ _ (call (Value.ref 75) _) _ _ _);  first | (k_dflt (refine' (last_val _ _ _ _ _ _ _ _ _ _ 30 (last30 (by omega))) _ _ _ _ _ _ _ _ _ _ _ _ _ _ _ _ _ _ ?k1 ?k2 ?k3 ?k4 ?k5 ?kK trivial ?kd ?ku ?_; (case k1 => k_asm); (case k2 => k_asm); (case k3 => k_asm); (case k4 => k_asm); (case k5 => k_asm); (case kK => first | exact rfl | assumption); (case kd => ktr_room); (case ku => ktr_units); k_whole); intro t9 h9 tk9 F9 N9; (try dsimp only); (try k_fold)) | (k_dflt (refine' (last_val _ _ _ _ _ _ _ _ _ _ 6 (last6 (by omega) (by omega))) _ _ _ _ _ _ _ _ _ _ _ _ _ _ _ _ _ _ ?k1 ?k2 ?k3 ?k4 ?k5 ?kK trivial ?kd ?ku ?_; (case k1 => k_asm); (case k2 => k_asm); (case k3 => k_asm); (case k4 => k_asm); (case k5 => k_asm); (case kK => first | exact rfl | assumption); (case kd => ktr_room); (case ku => ktr_units); k_whole); intro t9 h9 tk9 F9 N9; (try dsimp only); (try k_fold)) | (k_dflt (refine' (last_val _ _ _ _ _ _ _ _ _ _ 5 (last5 (by omega) (by omega))) _ _ _ _ _ _ _ _ _ _ _ _ _ _ _ _ _ _ ?k1 ?k2 ?k3 ?k4 ?k5 ?kK trivial ?kd ?ku ?_; (case k1 => k_asm); (case k2 => k_asm); (case k3 => k_asm); (case k4 => k_asm); (case k5 => k_asm); (case kK => first | exact rfl | assumption); (case kd => ktr_room); (case ku => ktr_units); k_whole); intro t9 h9 tk9 F9 N9; (try dsimp only); (try k_fold))))
local macro_rules | `(tactic| walk_at "call ref") => `(tactic| (k_here; (with_reducible show wpAny _ _ (call (Value.ref 36) _) _ _ _); first | (k_dflt (refine' (leap_val _ _ _ _ _ _ true (leapT (by omega))) _ _ _ _ _ _ _ _ _ _ _ _ _ _ _ _ _ _ ?k1 ?k2 ?k3 ?k4 ?k5 ?kK trivial ?kd ?ku ?_; (case k1 => k_asm); (case k2 => k_asm); (case k3 => k_asm); (case k4 => k_asm); (case k5 => k_asm); (case kK => first | exact rfl | assumption); (case kd => ktr_room); (case ku => ktr_units); k_whole); intro t9 h9 tk9 F9 N9; (try dsimp only); (try k_fold)) | (k_dflt (refine' (leap_val _ _ _ _ _ _ false (leapN (by omega))) _ _ _ _ _ _ _ _ _ _ _ _ _ _ _ _ _ _ ?k1 ?k2 ?k3 ?k4 ?k5 ?kK trivial ?kd ?ku ?_; (case k1 => k_asm); (case k2 => k_asm); (case k3 => k_asm); (case k4 => k_asm); (case k5 => k_asm); (case kK => first | exact rfl | assumption); (case kd => ktr_room); (case ku => ktr_units); k_whole); intro t9 h9 tk9 F9 N9; (try dsimp only); (try k_fold)) | (k_dflt (refine' (leap_ok _ _ _ _ _ _) _ _ _ _ _ _ _ _ _ _ _ _ _ _ _ _ _ _ ?k1 ?k2 ?k3 ?k4 ?k5 ?kK trivial ?kd ?ku ?_; (case k1 => k_asm); (case k2 => k_asm); (case k3 => k_asm); (case k4 => k_asm); (case k5 => k_asm); (case kK => first | exact rfl | assumption); (case kd => ktr_room); (case ku => ktr_units); k_whole); intro t9 h9 tk9 F9 N9; (try dsimp only); (try k_fold))))
local macro_rules | `(tactic| walk_at "eval Call Name") => `(tactic| (refine Call_ ?_))
local macro_rules | `(tactic| walk_at "call ref") => `(tactic| (k_here; (with_reducible show wpAny _ _ (call (Value.ref 52) _) _ _ _); k_dflt (refine wpAny_call ?_; (refine' code_def ?k1 ?k2 ?k3 ?k4 ?k5 ?kA ?kF ?kK ?k6 ?k7 ?k8 ?k9 ?kB ?_ ?c2 ?c3 ?c4 ?c5; (case kA => exact rfl); (case kF => exact rfl); (case kK => first | exact rfl | assumption); (case k1 => k_asm); (case k2 => k_asm); (case k3 => k_asm); (case k4 => k_asm); (case k5 => k_asm); (case k6 => k_is); (case k7 => k_is); (case k8 => ktr_room); (case k9 => first | exact binds_K (by k_in) rfl (by k_is) rfl rfl rfl | exact BindsTo.of_eq rfl); (case c5 => decide); (case kB => exact locs rfl); (case c2 => exact rfl); (case c3 => exact rfl); (case c4 => exact rfl); k_whole; intro g' L' h' FG' F' N' B' X' T'; (try dsimp only); (try k_fold)))))
local macro_rules | `(tactic| walk_at "ite") => `(tactic| (first | (with_reducible refine ite_eqT (by omega) ?_) | (with_reducible refine ite_eqF (by omega) ?_)))
local macro_rules | `(tactic| walk_at "call ref") => `(tactic| (k_here; (with_reducible show wpAny _ _ (call (Value.ref 44) _) _ _ _); k_dflt (refine' (jd_0 _ _ _ _ _ _ _ _ _ _) _ _ _ _ _ _ _ _ _ _ _ _ _ _ _ _ _ _ ?k1 ?k2 ?k3 ?k4 ?k5 ?kK (by omega) ?kd ?ku ?_; (case k1 => k_asm); (case k2 => k_asm); (case k3 => k_asm); (case k4 => k_asm); (case k5 => k_asm); (case kK => first | exact rfl | assumption); (case kd => ktr_room); (case ku => ktr_units); k_whole); intro t9 h9 tk9 F9 N9; (try dsimp only); (try k_fold)))
local macro_rules | `(tactic| walk_at "call ref") => `(tactic| (k_here; (with_reducible show wpAny _ _ (call (Value.ref 44) _) _ _ _); k_dflt (refine' (jd_1 _ _ _ _ _ _ _ _ _ _ _) _ _ _ _ _ _ _ _ _ _ _ _ _ _ _ _ _ _ ?k1 ?k2 ?k3 ?k4 ?k5 ?kK (by omega) ?kd ?ku ?_; (case k1 => k_asm); (case k2 => k_asm); (case k3 => k_asm); (case k4 => k_asm); (case k5 => k_asm); (case kK => first | exact rfl | assumption); (case kd => ktr_room); (case ku => ktr_units); k_whole); intro t9 h9 tk9 F9 N9; (try dsimp only); (try k_fold)))
local macro_rules | `(tactic| walk_at "call ref") => `(tactic| (k_here; (with_reducible show wpAny _ _ (call (Value.ref 44) _) _ _ _); k_dflt (refine' (jd_2 _ _ _ _ _ _ _ _ _ _ _) _ _ _ _ _ _ _ _ _ _ _ _ _ _ _ _ _ _ ?k1 ?k2 ?k3 ?k4 ?k5 ?kK (by omega) ?kd ?ku ?_; (case k1 => k_asm); (case k2 => k_asm); (case k3 => k_asm); (case k4 => k_asm); (case k5 => k_asm); (case kK => first | exact rfl | assumption); (case kd => ktr_room); (case ku => ktr_units); k_whole); intro t9 h9 tk9 F9 N9; (try dsimp only); (try k_fold)))
local macro_rules | `(tactic| walk_at "call ref") => `(tactic| (k_here; (with_reducible show wpAny _ _ (call (Value.ref 44) _) _ _ _); k_dflt (refine' (jd_3 _ _ _ _ _ _ _ _ _ _ _) _ _ _ _ _ _ _ _ _ _ _ _ _ _ _ _ _ _ ?k1 ?k2 ?k3 ?k4 ?k5 ?kK (by omega) ?kd ?ku ?_; (case k1 => k_asm); (case k2 => k_asm); (case k3 => k_asm); (case k4 => k_asm); (case k5 => k_asm); (case kK => first | exact rfl | assumption); (case kd => ktr_room); (case ku => ktr_units); k_whole); intro t9 h9 tk9 F9 N9; (try dsimp only); (try k_fold)))
local macro_rules | `(tactic| walk_at "call ref") => `(tactic| (k_here; (with_reducible show wpAny _ _ (call (Value.ref 44) _) _ _ _); k_dflt (refine' (jd_4 _ _ _ _ _ _ _ _ _ _ _) _ _ _ _ _ _ _ _ _ _ _ _ _ _ _ _ _ _ ?k1 ?k2 ?k3 ?k4 ?k5 ?kK (by omega) ?kd ?ku ?_; (case k1 => k_asm); (case k2 => k_asm); (case k3 => k_asm); (case k4 => k_asm); (case k5 => k_asm); (case kK => first | exact rfl | assumption); (case kd => ktr_room); (case ku => ktr_units); k_whole); intro t9 h9 tk9 F9 N9; (try dsimp only); (try k_fold)))
local macro_rules | `(tactic| walk_at "no such key of the walk") => `(tactic| fail)
local macro_rules | `(tactic| walk_at "no such key of the walk") => `(tactic| fail)
local macro_rules | `(tactic| walk_at "no such key of the walk") => `(tactic| fail)
local macro_rules | `(tactic| walk_at "no such key of the walk") => `(tactic| fail)
local macro_rules | `(tactic| walk_at "no such key of the walk") => `(tactic| fail)
set_option maxRecDepth 100000 in
set_option maxHeartbeats 8000000 in
theorem month_0 (w : World) (y mo : Int) (t1 t2 t3 : Tok) (hy : 1 ≤ y) (hm1 : 1 ≤ mo) (hm13 : mo ≤ 13) : OnLaw w 103 [.int 0 t1, .int y t2, .int mo t3] (.bool true) := by
  unfold OnLaw
  k_fill
  w_top off
  intro base h₀ L m news s mean mg mb cn ns ig ic a ccd Q E B F X N T XB TB hret
  refine wpAny_call ?_
  k_dflt kts_go
  by_cases hmo : mo < 13 <;> by_cases hlp : (533 ≤ y ∧ y % 4 = 0)
  all_goals k_steps
  all_goals first
    | exact hret _ _ (by assumption) (by assumption)
    | exact ret_b (eqB (by omega)) (hret _ _ (by assumption) (by assumption))
    | (exfalso; omega)
    | (exfalso; (rename Int.fmod _ _ = _ => hfm); have hfm' := fmE hfm; omega)
    | (exfalso; (rename Int.fmod _ _ ≠ _ => hfm); have hfm' := fmN hfm; omega)
set_option maxRecDepth 100000 in
set_option maxHeartbeats 8000000 in
theorem month_1 (w : World) (y mo : Int) (t1 t2 t3 : Tok) (hy : 1 ≤ y) (hm1 : 1 ≤ mo) (hm13 : mo ≤ 13) : OnLaw w 103 [.int 1 t1, .int y t2, .int mo t3] (.bool true) := by
  unfold OnLaw
  k_fill
  w_top off
  intro base h₀ L m news s mean mg mb cn ns ig ic a ccd Q E B F X N T XB TB hret
  refine wpAny_call ?_
  k_dflt kts_go
  by_cases hmo : mo < 13 <;> by_cases hlp : (533 ≤ y ∧ y % 4 = 0)
  all_goals k_steps
  all_goals first
    | exact hret _ _ (by assumption) (by assumption)
    | exact ret_b (eqB (by omega)) (hret _ _ (by assumption) (by assumption))
    | (exfalso; omega)
    | (exfalso; (rename Int.fmod _ _ = _ => hfm); have hfm' := fmE hfm; omega)
    | (exfalso; (rename Int.fmod _ _ ≠ _ => hfm); have hfm' := fmN hfm; omega)
set_option maxRecDepth 100000 in
set_option maxHeartbeats 8000000 in
theorem month_2 (w : World) (y mo : Int) (t1 t2 t3 : Tok) (hy : 1 ≤ y) (hm1 : 1 ≤ mo) (hm13 : mo ≤ 13) : OnLaw w 103 [.int 2 t1, .int y t2, .int mo t3] (.bool true) := by
  unfold OnLaw
  k_fill
  w_top off
  intro base h₀ L m news s mean mg mb cn ns ig ic a ccd Q E B F X N T XB TB hret
  refine wpAny_call ?_
  k_dflt kts_go
  by_cases hmo : mo < 13 <;> by_cases hlp : (533 ≤ y ∧ y % 4 = 0)
  all_goals k_steps
  all_goals first
    | exact hret _ _ (by assumption) (by assumption)
    | exact ret_b (eqB (by omega)) (hret _ _ (by assumption) (by assumption))
    | (exfalso; omega)
    | (exfalso; (rename Int.fmod _ _ = _ => hfm); have hfm' := fmE hfm; omega)
    | (exfalso; (rename Int.fmod _ _ ≠ _ => hfm); have hfm' := fmN hfm; omega)
set_option maxRecDepth 100000 in
set_option maxHeartbeats 8000000 in
theorem month_3 (w : World) (y mo : Int) (t1 t2 t3 : Tok) (hy : 1 ≤ y) (hm1 : 1 ≤ mo) (hm13 : mo ≤ 13) : OnLaw w 103 [.int 3 t1, .int y t2, .int mo t3] (.bool true) := by
  unfold OnLaw
  k_fill
  w_top off
  intro base h₀ L m news s mean mg mb cn ns ig ic a ccd Q E B F X N T XB TB hret
  refine wpAny_call ?_
  k_dflt kts_go
  by_cases hmo : mo < 13 <;> by_cases hlp : (533 ≤ y ∧ y % 4 = 0)
  all_goals k_steps
  all_goals first
    | exact hret _ _ (by assumption) (by assumption)
    | exact ret_b (eqB (by omega)) (hret _ _ (by assumption) (by assumption))
    | (exfalso; omega)
    | (exfalso; (rename Int.fmod _ _ = _ => hfm); have hfm' := fmE hfm; omega)
    | (exfalso; (rename Int.fmod _ _ ≠ _ => hfm); have hfm' := fmN hfm; omega)
set_option maxRecDepth 100000 in
set_option maxHeartbeats 8000000 in
theorem month_4 (w : World) (y mo : Int) (t1 t2 t3 : Tok) (hy : 533 ≤ y) (hm1 : 1 ≤ mo) (hm13 : mo ≤ 13) : OnLaw w 103 [.int 4 t1, .int y t2, .int mo t3] (.bool true) := by
  unfold OnLaw
  k_fill
  w_top off
  intro base h₀ L m news s mean mg mb cn ns ig ic a ccd Q E B F X N T XB TB hret
  refine wpAny_call ?_
  k_dflt kts_go
  by_cases hmo : mo < 13 <;> by_cases hlp : (533 ≤ y ∧ y % 4 = 0)
  all_goals k_steps
  all_goals first
    | exact hret _ _ (by assumption) (by assumption)
    | exact ret_b (eqB (by omega)) (hret _ _ (by assumption) (by assumption))
    | (exfalso; omega)
    | (exfalso; (rename Int.fmod _ _ = _ => hfm); have hfm' := fmE hfm; omega)
    | (exfalso; (rename Int.fmod _ _ ≠ _ => hfm); have hfm' := fmN hfm; omega)
end


def IntEnd (h₀ : Heap) (L : Addr) (m : PySem.Str → Option Value) (news : List (Addr × Obj)) (s : Shared) (v : Value) (s' : Shared) : Prop :=
  ∃ (n : Int) (t : Tok) (h' : Heap) (tk : Nat), v = .int n t ∧ s' = { s with heap := h', toks := tk } ∧ Fr h₀ L h' m ∧ News h₀ L h' news
theorem forget {M : Model} {A : Around} {E : Value → Shared → Prop} {s : Shared} {env : Env} {e : PySem.Expr} {h₀ : Heap} {L : Addr} {m : PySem.Str → Option Value} {news : List (Addr × Obj)} {Q : Value → Shared → Prop}
    (_F : Fr h₀ L s.heap m) (_N : News h₀ L s.heap news) (h1 : wpAny M A (eval e env) (IntEnd h₀ L m news s) E s)
    (h2 : ∀ (n : Int) (t : Tok) (h' : Heap) (tk : Nat), Fr h₀ L h' m → News h₀ L h' news → Q (.int n t) { s with heap := h', toks := tk }) : wpAny M A (eval e env) Q E s :=
  wpAny_mono h1 (fun v s' h => by
    obtain ⟨n, t, h', tk, rfl, rfl, F, N⟩ := h
    exact h2 n t h' tk F N) (fun _ _ x => x)
theorem fm8_lo (x : Int) : 0 ≤ x.fmod 8 := by
  rw [Int.fmod_eq_emod_of_nonneg x (by decide)]
  omega
theorem fm8_hi (x : Int) : x.fmod 8 < 8 := by
  rw [Int.fmod_eq_emod_of_nonneg x (by decide)]
  omega

theorem right_all (w : World) (p y mo d : Int) (t1 t2 t3 t4 : Tok) (h0 : 0 ≤ p) (h8 : p < 8) : OnLaw w 96 [.int p t1, .int y t2, .int mo t3, .int d t4] (.bool true) := by
  have h : p = 0 ∨ p = 1 ∨ p = 2 ∨ p = 3 ∨ p = 4 ∨ p = 5 ∨ p = 6 ∨ p = 7 := by omega
  rcases h with rfl | rfl | rfl | rfl | rfl | rfl | rfl | rfl
  · exact right_0 w y mo d t1 t2 t3 t4
  · exact right_1 w y mo d t1 t2 t3 t4
  · exact right_2 w y mo d t1 t2 t3 t4
  · exact right_3 w y mo d t1 t2 t3 t4
  · exact right_4 w y mo d t1 t2 t3 t4
  · exact right_5 w y mo d t1 t2 t3 t4
  · exact right_6 w y mo d t1 t2 t3 t4
  · exact right_7 w y mo d t1 t2 t3 t4
theorem month_all (w : World) (p y mo : Int) (t1 t2 t3 : Tok) (h0 : 0 ≤ p) (h5 : p < 5) (h : 1 ≤ mo ∧ mo ≤ 13 ∧ ((4 ≤ p ∧ 533 ≤ y) ∨ (p < 4 ∧ 1 ≤ y))) : OnLaw w 103 [.int p t1, .int y t2, .int mo t3] (.bool true) := by
  have h' : p = 0 ∨ p = 1 ∨ p = 2 ∨ p = 3 ∨ p = 4 := by omega
  rcases h' with rfl | rfl | rfl | rfl | rfl
  · exact month_0 w y mo t1 t2 t3 (by omega) h.1 h.2.1
  · exact month_1 w y mo t1 t2 t3 (by omega) h.1 h.2.1
  · exact month_2 w y mo t1 t2 t3 (by omega) h.1 h.2.1
  · exact month_3 w y mo t1 t2 t3 (by omega) h.1 h.2.1
  · exact month_4 w y mo t1 t2 t3 (by omega) h.1 h.2.1

-- the law
section
local macro_rules | `(tactic| walk_at "exec Assign cons IfExp") => `(tactic| (k_here; (refine wpAny_Assign_Name ?_); (refine' forget ?F ?N ?_ ?_; (case F => k_asm); (case N => k_asm)); rotate_left; (intro n9 t9 h9 tk9 F9 N9; (try dsimp only)); rotate_right))
local macro_rules | `(tactic| walk_at "exec Assign cons Subscript") => `(tactic| (k_here; (refine wpAny_Assign_Name ?_); (refine' forget ?F ?N ?_ ?_; (case F => k_asm); (case N => k_asm)); rotate_left; (intro n9 t9 h9 tk9 F9 N9; (try dsimp only)); rotate_right))
local macro_rules | `(tactic| walk_at "IntEnd") => `(tactic| (refine' ⟨_, _, _, _, rfl, rfl, ?kF, ?kN⟩; (case kF => assumption); (case kN => first | assumption | (refine' cb_drop ?cbN ?cbS; (case cbN => assumption); (case cbS => kcj_all)))))
local macro_rules | `(tactic| walk_at "call ref") => `(tactic| (k_here; (with_reducible show wpAny _ _ (call (Value.ref 75) _) _ _ _); k_dflt (refine' (last_ok _ _ _ _ _ _ _ _ _ _) _ _ _ _ _ _ _ _ _ _ _ _ _ _ _ _ _ _ ?k1 ?k2 ?k3 ?k4 ?k5 ?kK trivial ?kd ?ku ?_; (case k1 => k_asm); (case k2 => k_asm); (case k3 => k_asm); (case k4 => k_asm); (case k5 => k_asm); (case kK => first | exact rfl | assumption); (case kd => ktr_room); (case ku => ktr_units); k_whole); intro t9 h9 tk9 F9 N9; (try dsimp only); (try k_fold)))
local macro_rules | `(tactic| walk_at "call ref") => `(tactic| (k_here; (with_reducible show wpAny _ _ (call (Value.ref 82) _) _ _ _); k_dflt (refine' (due_ok _ _ _ _ _ _ _ _ _ _ _ _) _ _ _ _ _ _ _ _ _ _ _ _ _ _ _ _ _ _ ?k1 ?k2 ?k3 ?k4 ?k5 ?kK trivial ?kd ?ku ?_; (case k1 => k_asm); (case k2 => k_asm); (case k3 => k_asm); (case k4 => k_asm); (case k5 => k_asm); (case kK => first | exact rfl | assumption); (case kd => ktr_room); (case ku => ktr_units); k_whole); intro t9 h9 tk9 F9 N9; (try dsimp only); (try k_fold)))
local macro_rules | `(tactic| walk_at "call ref") => `(tactic| (k_here; (with_reducible show wpAny _ _ (call (Value.ref 96) _) _ _ _); k_dflt (refine' (right_all _ _ _ _ _ _ _ _ _ (fm8_lo _) (fm8_hi _)) _ _ _ _ _ _ _ _ _ _ _ _ _ _ _ _ _ ?kB ?kF ?kX ?kN ?kT ?kXB ?kTB ?_; (case kB => k_asm); (case kF => k_asm); (case kX => k_asm); (case kN => k_asm); (case kT => k_asm); (case kXB => assumption); (case kTB => assumption); k_whole); intro h9 tk9 F9 N9; (try dsimp only); (try k_fold)))
local macro_rules | `(tactic| walk_at "call ref") => `(tactic| (k_here; (with_reducible show wpAny _ _ (call (Value.ref 103) _) _ _ _); (rename Mine.dueF _ _ _ _ = true => hdu); have hdu' := Mine.due_says hdu; k_dflt (refine' (month_all _ _ _ _ _ _ _ (fm8_lo _) (by omega) (by omega)) _ _ _ _ _ _ _ _ _ _ _ _ _ _ _ _ _ ?kB ?kF ?kX ?kN ?kT ?kXB ?kTB ?_; (case kB => k_asm); (case kF => k_asm); (case kX => k_asm); (case kN => k_asm); (case kT => k_asm); (case kXB => assumption); (case kTB => assumption); k_whole); intro h9 tk9 F9 N9; (try dsimp only); (try k_fold)))
local macro_rules | `(tactic| walk_at "eval Call Name") => `(tactic| (refine Call_ ?_))
local macro_rules | `(tactic| walk_at "execs cons If") => `(tactic| ((with_reducible refine wpAny_execs_cons ?_); (try dsimp only)))
local macro_rules | `(tactic| walk_at "no such key of the walk") => `(tactic| fail)
local macro_rules | `(tactic| walk_at "no such key of the walk") => `(tactic| fail)
local macro_rules | `(tactic| walk_at "no such key of the walk") => `(tactic| fail)
local macro_rules | `(tactic| walk_at "no such key of the walk") => `(tactic| fail)
local macro_rules | `(tactic| walk_at "no such key of the walk") => `(tactic| fail)
local macro_rules | `(tactic| walk_at "no such key of the walk") => `(tactic| fail)
local macro_rules | `(tactic| walk_at "no such key of the walk") => `(tactic| fail)
local macro_rules | `(tactic| walk_at "no such key of the walk") => `(tactic| fail)
local macro_rules | `(tactic| walk_at "no such key of the walk") => `(tactic| fail)
local macro_rules | `(tactic| walk_at "no such key of the walk") => `(tactic| fail)
local macro_rules | `(tactic| walk_at "no such key of the walk") => `(tactic| fail)
set_option maxRecDepth 100000 in
set_option maxHeartbeats 8000000 in
theorem law_ok : PySem.Challenge.rw_aq6004_01.Holds := hd6004 (by
  k_go)
end

end Mine

theorem PySem.Challenge.cw_aq6004_01_holds : PySem.Challenge.rw_aq6004_01.Holds := by
  exact Mine.law_ok
