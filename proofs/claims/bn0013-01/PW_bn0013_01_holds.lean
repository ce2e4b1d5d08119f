import PyProof.Rows.All
import Wide.All
import OpenK.AllK
import Wide.FinOn
import PySem.Challenge.RW_bn0013_01
open PySem PySem.W PyProof.Rows
set_option Elab.async false
set_option linter.all false
set_option rowWalk.seconds 0
namespace Mine
set_option maxRecDepth 100000 in
set_option maxHeartbeats 8000000 in
open_top hd for PySem.Challenge.rw_bn0013_01
end Mine

open PySem PySem.Spec PySem.Calls PySem.W PyProof.Rows
set_option Elab.async false
namespace Mine
abbrev PG : Program := PySem.Challenge.rw_bn0013_01.row.prog
def Wrap (P : Prop) : Prop := P
theorem wrap_true {P : Prop} (h : P) : Wrap P = True := eq_true h
theorem unwrap {P : Prop} (h : Wrap P) : P := h

abbrev Call1 (w : World) (loose : List Str) (mean : ExcName → Option Value) (mg mb : Str → Option Value) (lv : Nat) (f : Addr) (news : List (Addr × Obj)) (vs : List Value) (pre : Prop)
    (Ret : Heap → Addr → (Str → Option Value) → List (Addr × Obj) → Shared → (Value → Shared → Prop) → Prop) : Prop :=
  ∀ (dp un : Nat) (gd : Option (List Code)) (cn : Str) (cs : Scope) (a : Addr) (ccd : Value) (cl : List (Str × Addr)) (outer : List Env) (A₀ : Around) (base h₀ : Heap) (L : Addr) (m : Str → Option Value) (s : Shared) (Q E : Value → Shared → Prop),
    Below A₀ base outer h₀ → Fr h₀ L s.heap m → (hd.heap_39 w.params).In h₀ → News h₀ L s.heap news → Top hd.view_39 loose mean mg mb h₀ → cs.kind = .function →
    dp + lv < recursionLimit → un + 8 * lv < cLine → pre → Ret h₀ L m news s Q →
      wpAny (model PG w) (ktrTop dp un gd cn cs L a ccd cl outer) (call (.ref f) vs) Q E s

abbrev RetI (x : Int) (h₀ : Heap) (L : Addr) (m : Str → Option Value) (news : List (Addr × Obj)) (s : Shared) (Q : Value → Shared → Prop) : Prop :=
  ∀ (t : Tok) (h' : Heap) (tk' : Nat), Fr h₀ L h' m → News h₀ L h' news → Q (.int x t) { s with heap := h', toks := tk' }
abbrev RetB (x : Bool) (h₀ : Heap) (L : Addr) (m : Str → Option Value) (news : List (Addr × Obj)) (s : Shared) (Q : Value → Shared → Prop) : Prop :=
  ∀ (h' : Heap) (tk' : Nat), Fr h₀ L h' m → News h₀ L h' news → Q (.bool x) { s with heap := h', toks := tk' }
abbrev tup2 (a b : Int) (t1 t2 : Tok) (c : Nat) : Obj := { cls := .type "tuple", data := .seq #[.int a t1, .int b t2] c }
abbrev tup3 (a b d : Int) (t1 t2 t3 : Tok) (c : Nat) : Obj := { cls := .type "tuple", data := .seq #[.int a t1, .int b t2, .int d t3] c }
abbrev tup5 (a b d e f : Int) (t1 t2 t3 t4 t5 : Tok) (c : Nat) : Obj := { cls := .type "tuple", data := .seq #[.int a t1, .int b t2, .int d t3, .int e t4, .int f t5] c }
abbrev Ret2 (x y : Int) (h₀ : Heap) (L : Addr) (m : Str → Option Value) (news : List (Addr × Obj)) (s : Shared) (Q : Value → Shared → Prop) : Prop :=
  ∀ (D : Addr) (t1 t2 : Tok) (c : Nat) (h' : Heap) (tk' : Nat), Fr h₀ L h' m → News h₀ L h' ((D, tup2 x y t1 t2 c) :: news) → AllLt D news → Q (.ref D) { s with heap := h', toks := tk' }
abbrev Ret3 (x y z : Int) (h₀ : Heap) (L : Addr) (m : Str → Option Value) (news : List (Addr × Obj)) (s : Shared) (Q : Value → Shared → Prop) : Prop :=
  ∀ (D : Addr) (t1 t2 t3 : Tok) (c : Nat) (h' : Heap) (tk' : Nat), Fr h₀ L h' m → News h₀ L h' ((D, tup3 x y z t1 t2 t3 c) :: news) → AllLt D news → Q (.ref D) { s with heap := h', toks := tk' }

theorem fill : (∀ P, hd.heap_39 P = hd.heap_39 P) ∨ PySem.Challenge.rw_bn0013_01.Holds := by
  k_fill
  exact .inl fun _ => rfl
section
variable {w : World} {loose : List Str} {mean : ExcName → Option Value} {mg mb : Str → Option Value}
theorem use1 {lv : Nat} {f : Addr} {vs : List Value} {pre : Prop} {Ret : Heap → Addr → (Str → Option Value) → List (Addr × Obj) → Shared → (Value → Shared → Prop) → Prop}
    {dp un : Nat} {gd : Option (List Code)} {cn : Str} {cs : Scope} {a : Addr} {ccd : Value} {cl : List (Str × Addr)} {outer : List Env} {A₀ : Around} {base h₀ : Heap} {L : Addr} {m : Str → Option Value} {news : List (Addr × Obj)} {s : Shared} {Q E : Value → Shared → Prop}
    (C : Call1 w loose mean mg mb lv f news vs pre Ret)
    (B : Below A₀ base outer h₀) (F : Fr h₀ L s.heap m) (X : (hd.heap_39 w.params).In h₀) (N : News h₀ L s.heap news) (T : Top hd.view_39 loose mean mg mb h₀) (hk : cs.kind = .function)
    (hd' : dp + lv < recursionLimit) (hu : un + 8 * lv < cLine) (hp : pre) (hr : Ret h₀ L m news s Q) :
    wpAny (model PG w) (ktrTop dp un gd cn cs L a ccd cl outer) (call (.ref f) vs) Q E s :=
  C dp un gd cn cs a ccd cl outer A₀ base h₀ L m s Q E B F X N T hk hd' hu hp hr
section
variable {h₀ h' : Heap} {L : Addr} {m : Str → Option Value} {news news' : List (Addr × Obj)} {s : Shared} {Q : Value → Shared → Prop} {tk' : Nat}
theorem endI {x y : Int} {t : Tok} (hret : RetI x h₀ L m news s Q) (e : y = x) (F : Fr h₀ L h' m) (N : News h₀ L h' news') (hn : ∀ p ∈ news, p ∈ news') : Q (.int y t) { s with heap := h', toks := tk' } := by
  subst e
  exact hret t h' tk' F (fun p hp => N p (hn p hp))
theorem endB {x y : Bool} (hret : RetB x h₀ L m news s Q) (e : y = x) (F : Fr h₀ L h' m) (N : News h₀ L h' news') (hn : ∀ p ∈ news, p ∈ news') : Q (.bool y) { s with heap := h', toks := tk' } := by
  subst e
  exact hret h' tk' F (fun p hp => N p (hn p hp))
theorem end2 {x y x' y' : Int} {t1 t2 : Tok} {c : Nat} {D : Addr} (hret : Ret2 x y h₀ L m news s Q) (e1 : x' = x) (e2 : y' = y) (F : Fr h₀ L h' m) (N : News h₀ L h' news') (hm : (D, tup2 x' y' t1 t2 c) ∈ news') (hn : ∀ p ∈ news, p ∈ news') (hl : AllLt D news) : Q (.ref D) { s with heap := h', toks := tk' } := by
  subst e1; subst e2
  exact hret D t1 t2 c h' tk' F (fun p hp => by
    rcases List.mem_cons.mp hp with rfl | hp
    · exact N _ hm
    · exact N p (hn p hp)) hl
theorem end3 {x y z x' y' z' : Int} {t1 t2 t3 : Tok} {c : Nat} {D : Addr} (hret : Ret3 x y z h₀ L m news s Q) (e1 : x' = x) (e2 : y' = y) (e3 : z' = z) (F : Fr h₀ L h' m) (N : News h₀ L h' news') (hm : (D, tup3 x' y' z' t1 t2 t3 c) ∈ news') (hn : ∀ p ∈ news, p ∈ news') (hl : AllLt D news) : Q (.ref D) { s with heap := h', toks := tk' } := by
  subst e1; subst e2; subst e3
  exact hret D t1 t2 t3 c h' tk' F (fun p hp => by
    rcases List.mem_cons.mp hp with rfl | hp
    · exact N _ hm
    · exact N p (hn p hp)) hl
end

section
set_option maxRecDepth 100000
set_option maxHeartbeats 4000000
-- a fresh exception caught in the frame that raised it, at any depth, and raised anew from it
section
open PySem.Calls
section
variable {M : Model} {A : Around} {E : Value → Shared → Prop} {s : Shared}
theorem not_type {a : Addr} {o : Obj} {vs : Array Value} {Q : Bool → Shared → Prop} (ha : s.heap.get? a = some o) (hd : o.data = .fields vs) (h : Q false s) : wpAny M A (isType (.ref a)) Q E s := by
  simp only [isType, loadHead]
  refine wpAny_bind (wpAny_loadPart ha ?_)
  rw [hd]; exact wpAny_pure h
theorem exc_value {a : Addr} {X : String} {o : Obj} {vs : Array Value} {c : String} {Q : Value → Shared → Prop} (ha : s.heap.get? a = some o) (hcls : o.cls = .type X) (hd : o.data = .fields vs)
    (hb : isSubtype (.type X) (.type "BaseException") = pure true) (h : Q (.ref a) s) : wpAny M A (excFromValue (.ref a) c) Q E s := by
  unfold excFromValue isExcClass
  refine wpAny_bind (wpAny_bind (not_type ha hd ?_))
  simp only [Bool.false_eq_true, if_false]
  refine wpAny_pure ?_
  simp only [Bool.false_eq_true, if_false]
  refine wpAny_bind (wpAny_isInstance (T := X) ⟨o, ha, hcls⟩ hb ?_)
  simp only [if_true]
  exact wpAny_pure h
theorem no_flight {a : Addr} {o : Obj} {vs : Array Value} {Q : Unit → Shared → Prop} (ha : s.heap.get? a = some o) (hd : o.data = .fields vs) (h1 : vs[1]? = some .none) (h : Q () s) : wpAny M A (setFlight (.ref a) none) Q E s := by
  unfold setFlight
  refine wpAny_bind (wpAny_field ha hd h1 ?_)
  rw [if_neg (by decide)]
  exact wpAny_pure h
end
theorem entry_unchain : entryFor table "proto.unchain" = some Builtin.«proto.unchain» := entryFor_of_fast (by kernel_rfl)
section
variable {prog : Program} {w : World} {A : Around} {E : Value → Shared → Prop} {s : Shared} {env : Env}
theorem raise_over {a b : Addr} {oa ob : Obj} {va vb : Array Value} {α : Type} {Q : α → Shared → Prop} (hh : A.handled = some (.ref b)) (hab : a ≠ b)
    (ha : s.heap.get? a = some oa) (hda : oa.data = .fields va) (hz : 2 < va.size) (hb : s.heap.get? b = some ob) (hdb : ob.data = .fields vb) (h2 : vb[2]? = some .none)
    (h : E (.ref a) { s with heap := s.heap.update a (Obj.mapFields (·.setIfInBounds 2 (.ref b))) }) : wpAny (model prog w) A (raiseNew (.ref a) : Sem α) Q E s := by
  unfold raiseNew
  refine wpAny_bind (wpAny_handled ?_)
  rw [hh]
  dsimp only
  rw [if_pos (by simpa using fun q => hab q.symm)]
  refine wpAny_bind (wpAny_holding (wpAny_runValue (codeAny_builtin entry_unchain ?_)))
  unfold Builtin.«proto.unchain»
  dsimp only
  refine wpAny_bind (wpAny_field hb hdb h2 ?_)
  rw [if_pos (by rfl)]
  refine wpAny_pure ?_
  dsimp only
  refine wpAny_bind ?_
  simp only [updateField]
  refine wpAny_bind (wpAny_load ha ?_)
  rw [hda]
  dsimp only
  rw [if_pos hz]
  exact wpAny_update ha (wpAny_throw h)

theorem Raise_from {e c : Expr} {pos : Pos} {b : Addr} {Q : Flow → Shared → Prop} (hh : A.handled = some (.ref b))
    (h : wpAny (model prog w) A (eval e env) (fun v s₁ => wpAny (model prog w) A (eval c env) (fun u s₂ => u = .ref b ∧ ∃ a oa ob t vb X Y, v = .ref a ∧ a ≠ b ∧ s₂.heap.get? a = some oa ∧ oa.cls = .type X ∧ oa.data = .fields #[t, .none, .none, .none, .bool false, .none] ∧
      isSubtype (.type X) (.type "BaseException") = pure true ∧ (Value.type ((Manifest.find? X).elim "type" (·.metatype)) == Value.type "type") = true ∧
      s₂.heap.get? b = some ob ∧ ob.cls = .type Y ∧ isSubtype (.type Y) (.type "BaseException") = pure true ∧ ob.data = .fields vb ∧ vb[2]? = some .none ∧
      ∀ h', (∀ q o, s₂.heap.get? q = some o → q ≠ a → h'.get? q = some o) → (∃ o', h'.get? a = some o' ∧ o'.cls = .type X ∧ o'.data = .fields #[t, .none, .ref b, .ref b, .bool true, .none]) → E (.ref a) { s₂ with heap := h' }) E s₁) E s) :
    wpAny (model prog w) A (exec (.Raise (some e) (some c) pos) env) Q E s := by
  show wpAny (model prog w) A (do standAt pos; raiseStmt env (some (do let v ← eval e env; standAt pos; pure v)) (some (do let v ← eval c env; standAt pos; pure v))) Q E s
  refine wpAny_bind (wpAny_standAt ?_)
  unfold raiseStmt
  dsimp only
  refine wpAny_bind (wpAny_bind (wpAny_mono h (fun v s₁ h₁ => wpAny_bind (wpAny_standAt (wpAny_pure ?_))) fun _ _ x => x))
  refine wpAny_bind (wpAny_holding (wpAny_bind (wpAny_mono h₁ (fun u s₂ h₂ => wpAny_bind (wpAny_standAt (wpAny_pure (wpAny_bind (wpAny_pure ?_))))) fun _ _ x => x)))
  obtain ⟨rfl, a, oa, ob, t, vb, X, Y, rfl, hab, ha, hac, had, hax, ham, hb, hbc, hbx, hbd, hb2, hE⟩ := h₂
  refine wpAny_bind (wpAny_holding (exc_value ha hac had hax ?_))
  dsimp only
  have q0 : (Value.ref b == Value.none) = false := by simp
  simp only [q0, Bool.false_eq_true, if_false]
  refine wpAny_bind (wpAny_holding (exc_value hb hbc hbd hbx ?_))
  refine wpAny_bind (wpAny_setField ha had (by simp) ?_)
  have ha1 := Heap.get?_update_self (Obj.mapFields (·.setIfInBounds 3 (Value.ref b))) ha (Obj.isFreed_of_fields (Obj.data_mapFields had _))
  have hd1 := Obj.data_mapFields had (·.setIfInBounds 3 (Value.ref b))
  refine wpAny_bind (wpAny_setField ha1 hd1 (by simp) ?_)
  have ha2 := Heap.get?_update_self (Obj.mapFields (·.setIfInBounds 4 (Value.bool true))) ha1 (Obj.isFreed_of_fields (Obj.data_mapFields hd1 _))
  have hd2 := Obj.data_mapFields hd1 (·.setIfInBounds 4 (Value.bool true))
  refine wpAny_bind (not_type ha2 hd2 ?_)
  simp only [Bool.false_eq_true, if_false]
  have hT : ∀ g : Heap, g.get? a = some (Obj.mapFields (·.setIfInBounds 4 (Value.bool true)) (Obj.mapFields (·.setIfInBounds 3 (Value.ref b)) oa)) → ({ s₂ with heap := g } : Shared).TypeIs (.ref a) X := fun g q => ⟨_, q, by rw [Obj.cls_mapFields, Obj.cls_mapFields]; exact hac⟩
  unfold raisedInstance
  refine wpAny_bind (wpAny_bind (wpAny_typeOf (hT _ ha2) (wpAny_bind (m := typeOf (.type X)) (wpAny_pure ?_))))
  rw [if_pos ham]
  refine wpAny_pure ?_
  refine wpAny_bind (no_flight ha2 hd2 (by rfl) ?_)
  have ot : ∀ q o, s₂.heap.get? q = some o → q ≠ a → ((s₂.heap.update a (Obj.mapFields (·.setIfInBounds 3 (Value.ref b)))).update a (Obj.mapFields (·.setIfInBounds 4 (Value.bool true)))).get? q = some o := fun q o e n => by
    rw [Heap.get?_update_other _ _ (Ne.symm n), Heap.get?_update_other _ _ (Ne.symm n)]; exact e
  refine raise_over hh hab ha2 hd2 (by simp) (ot b ob hb (Ne.symm hab)) hbd hb2 ?_
  refine hE _ (fun q o e n => by rw [Heap.get?_update_other _ _ (Ne.symm n)]; exact ot q o e n) ⟨_, Heap.get?_update_self _ ha2 (Obj.isFreed_of_fields (Obj.data_mapFields hd2 _)), by rw [Obj.cls_mapFields, Obj.cls_mapFields, Obj.cls_mapFields]; exact hac, by rw [Obj.data_mapFields hd2]; rfl⟩
end

section
variable {M : Model} {A : Around} {E : Value → Shared → Prop} {s : Shared}
theorem note_firstW {M : Model} {A : Around} {E : Value → Shared → Prop} {s : Shared} {base : Heap} {env : Env} {outer : List Env} {L e : Addr} {oe : Obj} {vs : Array Value} {a0 : Value} {Q : Unit → Shared → Prop}
    (hfr : A.frames = some (env :: outer)) (hl : s.heap.FunFrames base (env :: outer)) (hf : env.frame = some L)
    (he : s.heap.get? e = some oe) (hkb : base.StaysIn s.heap) (hen : base.get? e = none) (hd : oe.data = .fields vs) (h1 : vs[1]? = some .none) (h0 : vs[0]? = some a0)
    (h : ∀ h', Heap.NotedW base (env :: outer) e oe.cls a0 (rawInt L) s.heap h' → Q () { s with heap := h' }) : wpAny M A (noteFrame (.ref e) env) Q E s := by
  unfold noteFrame
  simp only [hf]
  refine wpAny_bind (wpAny_field he hd h1 ?_)
  rw [if_neg (by decide)]
  exact wpAny_entryW hfr hl hf he hkb hen hd (Array.getElem?_eq_some_iff.mp h1).1 h0 h
def Two (e : Addr) (h : Heap) : Prop := ∃ o vs, h.get? e = some o ∧ o.data = .fields vs ∧ vs[2]? = some .none
theorem entry_two {base : Heap} {env : Env} {outer : List Env} {L e : Addr} {oe : Obj} {vs : Array Value} {head a0 : Value} {hadNext : Bool} {Q : Unit → Shared → Prop}
    (hfr : A.frames = some (env :: outer)) (hl : s.heap.FunFrames base (env :: outer)) (hf : env.frame = some L) (h2 : vs[2]? = some .none)
    (he : s.heap.get? e = some oe) (hkb : base.StaysIn s.heap) (hd : oe.data = .fields vs) (h0 : vs[0]? = some a0) (hen : base.get? e = none)
    (h : ∀ h', Heap.NotedW base (env :: outer) e oe.cls a0 (rawInt L) s.heap h' → Two e h' → Q () { s with heap := h' }) :
    wpAny M A (do let a ← frameOf env; let pl ← entryPlaceOf L hadNext; let b ← EntryCells.newEntry head a .none (rawInt L) .none pl; setField (.ref e) 1 b) Q E s := by
  have hsz : 2 < vs.size := (Array.getElem?_eq_some_iff.mp h2).1
  have ne : e ∉ (env :: outer).filterMap (·.frame) := fun hm => by
    obtain ⟨_, o, ho, hnf⟩ := hl.mem hm
    rw [he] at ho; cases ho; exact hnf vs hd
  refine wpAny_bind (wpAny_frameOf_fun hfr hl hf fun g gs => wpAny_bind (wpAny_entryPlaceOf fun pl hpl => ?_))
  have eg : g.get? e = some oe := (gs.2.1 e ne).trans he
  have bg : base.StaysIn g := fun b o q => (gs.2.1 b fun hm => by rw [(hl.mem hm).1] at q; cases q).trans (hkb b o q)
  unfold EntryCells.newEntry newFields
  refine wpAny_bind (wpAny_newObj_type ?_ (hpl.sizeOk5 _ _ _ _ _))
  generalize htb : ({ cls := Value.type "traceback", dict := none, data := .fields ([head, .ref L, .none, rawInt L, .none] ++ (if pl.isEmpty then List.replicate 6 Value.none else pl)).toArray } : Obj) = tb
  have tbd : ∃ ts, tb.data = .fields ts ∧ ts[3]? = some (rawInt L) := by
    subst htb
    exact ⟨_, rfl, by first | (simp; done) | (rcases hpl with rfl | ⟨_, _, _, _, _, _, _, rfl⟩ <;> simp)⟩
  obtain ⟨ts, td, t3⟩ := tbd
  have ep := Heap.get?_push_of_some tb eg
  have tp : (g.push tb).get? g.objs.size = some tb := Heap.get?_push_size g (Obj.isFreed_of_fields td)
  have nT : g.objs.size ≠ e := Nat.ne_of_gt (Heap.lt_size eg)
  have d1 := Obj.data_mapFields hd (·.setIfInBounds 1 (Value.ref g.objs.size))
  have e1 := Heap.get?_update_self (Obj.mapFields (·.setIfInBounds 1 (Value.ref g.objs.size))) ep (Obj.isFreed_of_fields d1)
  have o1 : ∀ b, b ≠ e → ((g.push tb).update e (Obj.mapFields (·.setIfInBounds 1 (Value.ref g.objs.size)))).get? b = (g.push tb).get? b := fun b n => Heap.get?_update_other _ _ (Ne.symm n)
  have up : ∀ b o, s.heap.get? b = some o → (∀ vs, o.data ≠ .fields vs) → ∃ sl, ((g.push tb).update e (Obj.mapFields (·.setIfInBounds 1 (Value.ref g.objs.size)))).get? b = some { o with slots := sl } := fun b o q nf => by
    obtain ⟨sl, q'⟩ := gs.2.2 b o q
    refine ⟨sl, (o1 b fun z => ?_).trans (Heap.get?_push_of_some _ q')⟩
    rw [z, he] at q; cases q; exact nf vs hd
  refine wpAny_setField ep hd (by omega) (h _ ⟨fun b o q => (o1 b fun z => by rw [z, hen] at q; cases q).trans (Heap.get?_push_of_some _ (bg b o q)), hl.of_keeps fun b o q nf => ?_, ?_, up⟩ ?_)
  · obtain ⟨sl, q'⟩ := up b o q nf
    exact ⟨_, q', rfl⟩
  · exact ⟨_, _, g.objs.size, _, _, e1, ⟨Obj.cls_mapFields _ _, by rw [Array.getElem?_setIfInBounds_ne (by decide)]; exact h0⟩, d1, by rw [Array.getElem?_setIfInBounds_self_of_lt (by omega)], bg.fresh, nT, (o1 _ nT).trans tp, td, t3⟩
  · exact ⟨_, _, e1, d1, by rw [Array.getElem?_setIfInBounds_ne (by decide)]; exact h2⟩
theorem note_two {base : Heap} {env : Env} {outer : List Env} {L e : Addr} {oe : Obj} {vs : Array Value} {a0 : Value} {Q : Unit → Shared → Prop}
    (hfr : A.frames = some (env :: outer)) (hl : s.heap.FunFrames base (env :: outer)) (hf : env.frame = some L)
    (he : s.heap.get? e = some oe) (hkb : base.StaysIn s.heap) (hen : base.get? e = none) (hd : oe.data = .fields vs) (h1 : vs[1]? = some .none) (h0 : vs[0]? = some a0) (h2 : vs[2]? = some .none)
    (h : ∀ h', Heap.NotedW base (env :: outer) e oe.cls a0 (rawInt L) s.heap h' → Two e h' → Q () { s with heap := h' }) : wpAny M A (noteFrame (.ref e) env) Q E s := by
  unfold noteFrame
  simp only [hf]
  refine wpAny_bind (wpAny_field he hd h1 ?_)
  rw [if_neg (by decide)]
  exact entry_two hfr hl hf h2 he hkb hd h0 hen h
theorem unflight_two {base : Heap} {l : List Env} {e : Addr} {cls a0 fl : Value} {Q : Unit → Shared → Prop} (hkb : base.StaysIn s.heap) (hen : base.get? e = none) (hl : s.heap.FunFrames base l) (ht : s.heap.TracedAtW base e cls a0 fl) (tw : Two e s.heap)
    (h : ∀ h', Heap.FlyingW base l e cls a0 h' → s.heap.UpToSlots h' → Two e h' → Q () { s with heap := h' }) : wpAny M A (setFlight (.ref e) none) Q E s := by
  obtain ⟨oe, vs, T, oT, ts, he, hcls, hd, h1, hnT, hTe, hT, hdT, h3⟩ := ht
  obtain ⟨o2, v2, q1, q2, q3⟩ := tw
  rw [he] at q1; cases q1
  rw [hd] at q2; cases q2
  have sz : 3 < ts.size := (Array.getElem?_eq_some_iff.mp h3).1
  have ot : ∀ b, b ≠ T → (s.heap.update T (Obj.mapFields (·.setIfInBounds 3 Value.none))).get? b = s.heap.get? b := fun b n => Heap.get?_update_other _ _ (Ne.symm n)
  have nr : ∀ b o, s.heap.get? b = some o → (∀ vs, o.data ≠ .fields vs) → b ≠ T := fun b o q nf z => by
    rw [z, hT] at q; cases q; exact nf ts hdT
  unfold setFlight
  refine wpAny_bind (wpAny_field he hd h1 ?_)
  rw [if_pos (show (Value.ref T != Value.none) = true from by simp)]
  have e' := (ot e (Ne.symm hTe)).trans he
  refine wpAny_setField hT hdT sz (h _ ⟨fun b o q => (ot b fun z => by rw [z, hnT] at q; cases q).trans (hkb b o q), hen, hl.of_keeps fun b o q nf => ⟨o, (ot b (nr b o q nf)).trans q, rfl⟩, ?_⟩ (fun b o q nf => ⟨o.slots, (ot b (nr b o q nf)).trans q⟩) ⟨_, _, e', hd, q3⟩)
  exact ⟨_, _, T, _, _, e', hcls, hd, h1, hnT, hTe, Heap.get?_update_self _ hT (Obj.isFreed_of_fields (Obj.data_mapFields hdT _)), Obj.data_mapFields hdT _, by rw [Array.getElem?_setIfInBounds_self_of_lt sz]; rfl⟩
end

section
variable {prog : Program} {w : World} {A A₀ : Around} {E : Value → Shared → Prop} {s s' : Shared} {base g g₀ h : Heap} {outer : List Env} {L a e : Addr} {m : Str → Option Value} {name : Str} {scope : Scope} {cd : Value}
  {n : Str} {b₀ : Stmt} {suite : List Stmt} {pos np : Pos} {rest : List ExceptHandler} {Q : Flow → Shared → Prop} {news : List (Addr × Obj)} {KF : Frag}
  {p : Program} {loose : List Str} {mean : ExcName → Option Value} {mg mb : Str → Option Value} {x : Str} {X T' : String}
-- what is hidden: the frames of the stack
theorem hid_of (K : Below A₀ base outer g) (F : Fr g L h m) (N : News g L h news) (hk : scope.kind = .function) :
    ∃ B : Heap, base.StaysIn B ∧ (∀ b o, h.get? b = some o → b ∉ (envOf name scope L a cd :: outer).filterMap (·.frame) → B.get? b = some o) ∧
      (∀ b o, B.get? b = some o → h.get? b = some o) ∧ h.FunFrames B (envOf name scope L a cd :: outer) ∧ (∀ q ∈ news, B.get? q.1 = some q.2) ∧ B.get? L = none := by
  have K' := K.push (name := name) (a := a) (cd := cd) F hk
  have hin : ∀ env ∈ (envOf name scope L a cd :: outer), ∀ b, env.frame = some b → b ∈ (envOf name scope L a cd :: outer).filterMap (·.frame) := fun env he b hb => List.mem_filterMap.mpr ⟨env, he, hb⟩
  refine ⟨hideAll h ((envOf name scope L a cd :: outer).filterMap (·.frame)), fun b o q => hideAll_get _ (K'.stays b o q) fun hm => ?_, fun b o q nm => hideAll_get _ q nm, fun b o q => of_hideAll _ q, funFrames_hide K'.frames hin, fun q hq => hideAll_get _ (N q hq).1 fun hm => ?_, hideAll_none _ (hin _ (.head _) L rfl)⟩
  · rw [(K'.frames.mem hm).1] at q; cases q
  · rcases kts_mem hm with z | z
    · exact (N q hq).2.1 z
    · obtain ⟨_, o, ho, _⟩ := K.frames.mem z
      rw [(N q hq).2.2] at ho; cases ho
theorem caught_two (hx : Heap.NewExc h s'.heap e X) (F : Fr g L h m) (N : News g L h news) (K : Below A₀ base outer g) (XB : KF.In base) (TB : Top p loose mean mg mb base)
    (ex : nsIn KF mainGlobals x = some none) (hv : bootBuiltins x = some (.type T')) (hn' : x ≠ "__name__")
    (hexc : isSubtype (.type T') (.type "BaseException") = pure true) (hnt : isSubtype (.type ((Manifest.find? T').elim "type" fun y => y.metatype)) (.type "tuple") = pure false) (hsub : isSubtype (.type X) (.type T') = pure true)
    (k : ∀ h' g' tk o vs, KtsTurn (outer.filterMap (·.frame)) g g' → Fr g' L h' (fun y => if y = n then some (.ref e) else m y) → News g' L h' ((e, o) :: news) → o.cls = .type X → o.data = .fields vs → vs[2]? = some .none → Below A₀ base outer g' → KF.In g' → Top p loose mean mg mb g' →
      wpAny (model prog w) ((A₀.deeper (envOf name scope L a cd)).mark (some (.ref e))) (execs (b₀ :: suite) (envOf name scope L a cd))
        (fun f s₄ => wpAny (model prog w) (A₀.deeper (envOf name scope L a cd)) (do bindName (envOf name scope L a cd) n .none; unbindBehindTheSuite (envOf name scope L a cd) n pos) (fun _ s₅ => Q f s₅) E s₄)
        (AsSuiteRaised (model prog w) ((A₀.deeper (envOf name scope L a cd)).mark (some (.ref e))) (envOf name scope L a cd) n pos (notedBy (model prog w) ((A₀.deeper (envOf name scope L a cd)).mark (some (.ref e))) (envOf name scope L a cd) (cameBackBy (model prog w) (A₀.deeper (envOf name scope L a cd)) (envOf name scope L a cd) E)))
        { s' with heap := h', toks := tk })
    (hk : scope.kind = .function) (hlo : (envOf name scope L a cd).kindOf n = some .local) (hxk : (envOf name scope L a cd).kindOf x = some .globalImplicit) (hd : (x == ("__debug__" : Str)) = false) :
    wpAny (model prog w) (A₀.deeper (envOf name scope L a cd)) (noteFrame (.ref e) (envOf name scope L a cd))
      (fun _ s₂ => wpAny (model prog w) (A₀.deeper (envOf name scope L a cd)) (setFlight (.ref e) none) (fun _ s₃ =>
        wpAny (model prog w) (A₀.deeper (envOf name scope L a cd)) (handleBy (.ref e) (envOf name scope L a cd) (.ExceptHandler (some (.Name x np)) (some n) (b₀ :: suite) pos :: rest)) Q E s₃) E s₂) E s' := by
  obtain ⟨B, hB, hBG, hBo, hBf, hl, hL⟩ := hid_of (name := name) (a := a) (cd := cd) K F N hk
  obtain ⟨ob, tp, he, hcls, hd0⟩ := hx.there
  have hen : B.get? e = none := by
    cases q : B.get? e with
    | none => rfl
    | some o => have := hBo _ _ q; rw [hx.new] at this; cases this
  refine note_two (a0 := tp) (Around.frames_deeper K.stack) (hBf.of_keeps fun b o hb _ => ⟨o, hx.keeps b o hb, rfl⟩) rfl he (fun b o hb => hx.keeps b o (hBo _ _ hb)) hen hd0 rfl rfl rfl fun h₄ hN tw₄ => ?_
  obtain ⟨k1, k2, k3, k4⟩ := hN
  rw [hcls] at k3
  have sm₄ : h.UpToSlots h₄ := (Heap.UpToSlots.of_keeps hx.keeps).trans k4
  refine unflight_two k1 hen k2 k3 tw₄ fun h₅ hfl₅ sm₅ tw₅ => ?_
  obtain ⟨g₅, T₅, F₅, K₅⟩ := kts_ground K F hBG hfl₅.1 (sm₄.trans sm₅)
  have X₅ : KF.In g₅ := XB.keeps K₅.stays
  have P₅ : TopRead p loose mg mb g₅ := topRead_of (TB.keeps K₅.stays)
  obtain ⟨ob5, hob5, hobc5⟩ := hfl₅.there
  refine wpAny_handleBy_builtin_as (X := X) (T := T') (b := true) hexc hnt hsub (name_B F₅ X₅ P₅ ex hv hn' ⟨rfl, ⟨ob5, hob5, hobc5⟩, ?_⟩ hk hxk hd)
  refine unflight_two hfl₅.1 hen hfl₅.2.2.1 hfl₅.2.2.2.at tw₅ fun h₆ hfl₆ sm₆ tw₆ => ?_
  obtain ⟨g₆, T₆, F₆, K₆⟩ := kts_ground K F hBG hfl₆.1 ((sm₄.trans sm₅).trans sm₆)
  obtain ⟨oe, vs, q1, q2, q3⟩ := tw₆
  obtain ⟨oe', q1', q4⟩ := hfl₆.there
  rw [q1] at q1'; cases q1'
  have ge : g.get? e = none := kts_none F.keep hx.new
  have eL : e ≠ L := fun z => by
    obtain ⟨o, _, _, ho, hd1, _⟩ := F₆.ns
    rw [← z, q1] at ho; cases ho; rw [q2] at hd1; cases hd1
  have Nl : News g₆ L h₆ ((e, oe) :: news) := fun q hq => by
    rcases List.mem_cons.mp hq with rfl | hq
    · exact ⟨q1, eL, T₆.none_ _ ge⟩
    · exact ⟨hfl₆.1 _ _ (hl q hq), (fun z => by have := hl q hq; rw [z, hL] at this; cases this), T₆.none_ _ (N q hq).2.2⟩
  refine stN F₆ Nl (fun h₇ F₇ N₇ => ?_) hk hlo
  exact k h₇ g₆ _ oe vs T₆ F₇ N₇ q4 q2 q3 K₆ (XB.keeps K₆.stays) (TB.keeps K₆.stays)

theorem same_flight {M : Model} {A : Around} {E : Value → Shared → Prop} {s : Shared} {base : Heap} {L e : Addr} {cls a0 : Value} {Q : Unit → Shared → Prop} (ht : s.heap.TracedAtW base e cls a0 (rawInt L)) (h : Q () s) : wpAny M A (setFlight (.ref e) (some L)) Q E s := by
  obtain ⟨oe, vs, T, oT, ts, he, hcls, hd, h1, hnT, hTe, hT, hdT, h3⟩ := ht
  unfold setFlight
  refine wpAny_bind (wpAny_field he hd h1 ?_)
  rw [if_pos (show (Value.ref T != Value.none) = true from by simp)]
  refine wpAny_setField hT hdT (Array.getElem?_eq_some_iff.mp h3).1 ?_
  show Q () { s with heap := s.heap.update T (Obj.mapFields (·.setIfInBounds 3 (rawInt L))) }
  rw [Heap.update_setField_same s.heap T oT ts 3 (rawInt L) hT hdT h3]
  exact h
theorem has_head {M : Model} {A : Around} {E : Value → Shared → Prop} {s : Shared} {base : Heap} {e : Addr} {cls a0 fl : Value} {Q : Value → Shared → Prop} (ht : s.heap.TracedAtW base e cls a0 fl) (h : ∀ T, Q (.ref T) s) : wpAny M A (field (.ref e) 1) Q E s := by
  obtain ⟨oe, vs, T, oT, ts, he, hcls, hd, h1, hnT, hTe, hT, hdT, h3⟩ := ht
  exact wpAny_field he hd h1 (h T)
-- the exception raised in an except suite leaves the frame
theorem suite_leaves {u : Addr} {o : Obj} {t v2 v3 v4 v5 : Value} {A' : Around} {Q1 : Value → Shared → Prop} {E₁ : Value → Shared → Prop} (hA : A'.frames = some (envOf name scope L a cd :: outer)) (T₀ : KtsTurn (outer.filterMap (·.frame)) g₀ g) (K₀ : Below A₀ base outer g₀)
    (F : Fr g L h m) (N₀ : ∀ q ∈ news, g₀.get? q.1 = none) (N : News g L h news) (K : Below A₀ base outer g)
    (kp : ∀ b ob, h.get? b = some ob → s.heap.get? b = some ob) (hn : h.get? u = none) (hu : s.heap.get? u = some o) (hc : o.cls = .type X) (hd : o.data = .fields #[t, .none, v2, v3, v4, v5])
    (hQ : ∀ h' tk, RaisedSN base g₀ outer u (.type X) news h' → RaisedN base outer u (.type X) news h' → g₀.UpToSlots h' → Q1 (.ref u) { s with heap := h', toks := tk })
    (hk : scope.kind = .function) (hlo : (envOf name scope L a cd).kindOf n = some .local) :
    AsSuiteRaised (model prog w) A' (envOf name scope L a cd) n pos (notedBy (model prog w) A' (envOf name scope L a cd) (cameBackBy (model prog w) (A₀.deeper (envOf name scope L a cd)) (envOf name scope L a cd)
      (fun y s₁ => wpAny (model prog w) (A₀.deeper (envOf name scope L a cd)) (leaving (envOf name scope L a cd) y) (fun _ s₂ => Q1 y s₂) E₁ s₁))) (.ref u) s := by
  obtain ⟨B, hB, hBG, hBo, hBf, hl, hL⟩ := hid_of (name := name) (a := a) (cd := cd) K F N hk
  have hun : B.get? u = none := by
    cases q : B.get? u with
    | none => rfl
    | some o => have := hBo _ _ q; rw [hn] at this; cases this
  show wpAny _ _ (noteFrame _ _) _ _ _
  refine note_firstW (a0 := t) hA (hBf.of_keeps fun b o hb _ => ⟨o, kp b o hb, rfl⟩) rfl hu (fun b o hb => kp b o (hBo _ _ hb)) hun hd rfl rfl fun h₁ hN => ?_
  obtain ⟨k1, k2, k3, k4⟩ := hN
  rw [hc] at k3
  have sm₁ : h.UpToSlots h₁ := (Heap.UpToSlots.of_keeps kp).trans k4
  have ns₁ : h₁.Ns L m := sm₁.ns F.ns
  refine wpAny_nameGoes hlo ns₁ (by show (scope.kind == .class || (scope.kind == .module && L != mainGlobals)) = false; rw [hk]; rfl) fun h₂ m₂ ns₂ sb => ?_
  change h₂.Ns L m₂ at ns₂
  change Heap.SameBut L h₁ h₂ at sb
  have neL : ∀ b o vs, h₁.get? b = some o → o.data = .fields vs → b ≠ L := fun b o vs q q' z => by
    obtain ⟨oL, es, ep, ho, hdL, _⟩ := ns₁
    rw [z, ho] at q; cases q; rw [hdL] at q'; cases q'
  have st₂ : B.StaysIn h₂ := fun b o q => (sb.2 b fun z => by rw [z, hL] at q; cases q).trans (k1 b o q)
  have ff₂ : h₂.FunFrames B (envOf name scope L a cd :: outer) := by
    refine Heap.FunFrames.cons (by show scope.kind ≠ .module; rw [hk]; decide) rfl ns₂ hL ?_
    have ff : g.FunFrames B outer := by
      have : ∀ l : List Env, (∀ v ∈ l, v ∈ outer) → g.FunFrames base l → g.FunFrames B l := fun l => by
        induction l with
        | nil => exact fun _ _ => True.intro
        | cons v r ih =>
          rintro hv ⟨j1, ⟨L', o', j2, j3, j4, j5⟩, j6⟩
          refine ⟨j1, ⟨L', o', j2, ?_, j4, j5⟩, ih (fun v hm => hv v (.tail _ hm)) j6⟩
          exact (hBf.mem (List.mem_filterMap.mpr ⟨v, .tail _ (hv v (.head _)), j2⟩)).1
      exact this outer (fun _ x => x) K.frames
    refine ff.of_keeps fun b o q nf => ?_
    obtain ⟨sl, q'⟩ := sm₁ b o (F.keep b o q) nf
    exact ⟨_, (sb.2 b fun z => by rw [z, kts_self F] at q; cases q).trans q', rfl⟩
  have tr₂ : h₂.TracedAtW B u (.type X) t (rawInt L) := by
    obtain ⟨oe, vs, T, oT, ts, he, hcls, hd, h1, hnT, hTe, hT, hdT, h3⟩ := k3
    exact ⟨oe, vs, T, oT, ts, (sb.2 u (neL u oe vs he hd)).trans he, hcls, hd, h1, hnT, hTe, (sb.2 T (neL T oT ts hT hdT)).trans hT, hdT, h3⟩
  have up₂ : g₀.UpToSlots h₂ := fun b o q nf => by
    obtain ⟨s1, q1⟩ := T₀.up q
    obtain ⟨s2, q2⟩ := sm₁ b _ (F.keep b _ q1) nf
    exact ⟨s2, (sb.2 b fun z => by rw [z, kts_self F] at q1; cases q1).trans q2⟩
  show wpAny _ _ (PySem.passOn _ _ _) _ _ _
  unfold PySem.passOn
  refine wpAny_bind (has_head tr₂ fun T => ?_)
  rw [if_neg (show ¬ ((Value.ref T == Value.none) = true) from by simp)]
  refine wpAny_bind (same_flight tr₂ (wpAny_throw ?_))
  show wpAny _ _ (noteFrame _ _) _ _ _
  refine wpAny_noteFrame_againW rfl tr₂ ?_
  show wpAny _ _ (do if (← field (.ref u) 1) == .none then unsupported "frame.own-activation:exception-without-traceback"
                     setFlight (.ref u) (some L)) _ _ _
  refine wpAny_bind (has_head tr₂ fun T => ?_)
  rw [if_neg (show ¬ ((Value.ref T == Value.none) = true) from by simp)]
  refine same_flight tr₂ ?_
  show wpAny _ _ (leaving _ _) _ _ _
  unfold leaving
  refine wpAny_bind (wpAny_noteFrame_againW rfl tr₂ ?_)
  refine wpAny_landsW ⟨st₂, hun, ff₂, tr₂⟩ fun h₃ hfl sm₃ => ?_
  obtain ⟨j1, j2, ⟨_, _, j3⟩, j4⟩ := hfl
  have R : RaisedSN base g₀ outer u (.type X) news h₃ := ⟨B, t, hB, fun b o q nm => hBG b o (F.keep b o (T₀.other b o q nm)) (fun hm => by
    rcases kts_mem hm with z | z
    · have := T₀.other b o q nm
      rw [z, kts_self F] at this; cases this
    · exact nm z), fun q hq => ⟨hl q hq, N₀ q hq, fresh_of_stays K₀.stays (N₀ q hq)⟩, ⟨j1, j2, j3, j4⟩⟩
  exact hQ h₃ _ R R.toN (up₂.trans sm₃)

theorem eval_exc1 {N I : String} {y : Str} {msg : Str} {kd : Nat} {yp cpos lp : Pos} {h₀ : Heap} {Q : Value → Shared → Prop} (hc : ExcClass X N I) (F : Fr h₀ L s.heap m) (XF : KF.In h₀) (T : TopRead p loose mg mb h₀)
    (ey : nsIn KF mainGlobals y = some none) (hv : bootBuiltins y = some (.type X)) (hn : y ≠ "__name__") 
    (h : ∀ h' tk u, Heap.NewExc s.heap h' u X → Q (.ref u) { s with heap := h', toks := tk })
    (hk : scope.kind = .function) (hy : (envOf name scope L a cd).kindOf y = some .globalImplicit) (hd : (y == ("__debug__" : Str)) = false) :
    wpAny (model prog w) A (eval (.Call (.Name y yp) [.Constant (.str msg) kd cpos] [] lp) (envOf name scope L a cd)) Q E s := by
  refine Call_Name1 (name_B F XF T ey hv hn ?_ hk hy hd)
  refine PyProof.Rows.callWith_type rfl (Calls.evalArgs_plain (Calls.spliced_cons (Calls.Constant_str (Calls.spliced_nil ?_))))
  exact call_exc hc fun h' u hx => h h' _ u hx
theorem caught_raise {msg : Str} {kd : Nat} {yp cpos lp np2 rp : Pos} {Q1 : Value → Shared → Prop} {E₁ : Value → Shared → Prop} (hx : Heap.NewExc h s'.heap e "AssertionError") (F : Fr g L h m) (N' : News g L h news) (K : Below A₀ base outer g) (XB : KF.In base) (TB : Top p loose mean mg mb base)
    (ex : nsIn KF mainGlobals "AssertionError" = some none) (ey : nsIn KF mainGlobals "ValueError" = some none)
    (hQ : ∀ h' tk u, RaisedSN base g outer u (.type "ValueError") news h' → RaisedN base outer u (.type "ValueError") news h' → g.UpToSlots h' → Q1 (.ref u) { s' with heap := h', toks := tk })
    (hk : scope.kind = .function) (hlo : (envOf name scope L a cd).kindOf n = some .local) (hl2 : (scope.names.lookup n == some NameKind.local) = true) (hd : (n == ("__debug__" : Str)) = false) (hxk : (envOf name scope L a cd).kindOf "AssertionError" = some .globalImplicit) (hyk : (envOf name scope L a cd).kindOf "ValueError" = some .globalImplicit) :
    wpAny (model prog w) (A₀.deeper (envOf name scope L a cd)) (noteFrame (.ref e) (envOf name scope L a cd))
      (fun _ s₂ => wpAny (model prog w) (A₀.deeper (envOf name scope L a cd)) (setFlight (.ref e) none) (fun _ s₃ =>
        wpAny (model prog w) (A₀.deeper (envOf name scope L a cd)) (handleBy (.ref e) (envOf name scope L a cd) (.ExceptHandler (some (.Name "AssertionError" np)) (some n) [.Raise (some (.Call (.Name "ValueError" yp) [.Constant (.str msg) kd cpos] [] lp)) (some (.Name n np2)) rp] pos :: rest)) Q
          (fun y s₁ => wpAny (model prog w) (A₀.deeper (envOf name scope L a cd)) (leaving (envOf name scope L a cd) y) (fun _ s₂ => Q1 y s₂) E₁ s₁) s₃)
          (fun y s₁ => wpAny (model prog w) (A₀.deeper (envOf name scope L a cd)) (leaving (envOf name scope L a cd) y) (fun _ s₂ => Q1 y s₂) E₁ s₁) s₂)
          (fun y s₁ => wpAny (model prog w) (A₀.deeper (envOf name scope L a cd)) (leaving (envOf name scope L a cd) y) (fun _ s₂ => Q1 y s₂) E₁ s₁) s' := by
  refine caught_two (X := "AssertionError") (T' := "AssertionError") hx F N' K XB TB ex PyProof.Rows.Boot.«AssertionError» (by decide) PySem.F.isExc_AssertionError PySem.F.notTuple_AssertionError (by kts_sub) (fun h' g' tk o vs T₆ F₆ N₆ oc od o2 K₆ X₆ P₆ => ?_) hk hlo hxk (by decide)
  refine wpAny_execs_cons (Raise_from (b := e) rfl ?_)
  refine eval_exc1 (name := name) (a := a) (cd := cd) excClass_ValueError F₆ X₆ (topRead_of P₆) ey PyProof.Rows.Boot.«ValueError» (by decide) (fun h₂ t₂ u hu => ?_) hk hyk (by decide)
  have F₂ : Fr g' L h₂ _ := ⟨by
      obtain ⟨oL, es, ep, ho, r⟩ := F₆.ns
      exact ⟨oL, es, ep, hu.keeps _ _ ho, r⟩, fun b o q => hu.keeps b o (F₆.keep b o q), F₆.above⟩
  refine ldK (v := .ref e) (x := n) F₂ (if_pos rfl) ⟨rfl, ?_⟩ hl2 hk hd
  obtain ⟨ou, t, hu1, hu2, hu3⟩ := hu.there
  have eu : u ≠ e := fun z => by
    have := hu.new
    rw [z] at this
    rw [show ({ s' with heap := h', toks := tk } : Shared).heap = h' from rfl, N₆.get (.head _)] at this; cases this
  refine ⟨u, ou, o, t, vs, "ValueError", "AssertionError", rfl, eu, hu1, hu2, hu3, excClass_ValueError.base, excClass_ValueError.metaType, hu.keeps _ _ (N₆.get (.head _)), oc, excClass_AssertionError.base, od, o2, fun h₃ keep ho3 => ?_⟩
  obtain ⟨o', q1, q2, q3⟩ := ho3
  refine suite_leaves (s := { s' with heap := h₃, toks := t₂ }) (news := news) (h := h') (A' := (A₀.deeper (envOf name scope L a cd)).mark (some (.ref e))) (Around.frames_deeper K.stack) T₆ K F₆ (fun q hq => (N' q hq).2.2) (fun q hq => N₆ q (.tail _ hq)) K₆ (fun b ob q => keep b ob (hu.keeps b ob q) fun z => by rw [z] at q; rw [show ({ s' with heap := h', toks := tk } : Shared).heap = h' from rfl] at hu; rw [hu.new] at q; cases q) hu.new q1 q2 q3 (fun h' tk => hQ h' tk u) hk hlo
end
end
-- the law's helper refused: walked with the library's own lines, called from the law's own frame
abbrev RP (k n : Int) : Prop := (k = 5 ∧ n < 584283) ∨ (k = 6 ∧ n < 1922502) ∨ (k = 7 ∧ n < 2117211) ∨ (k = 9 ∧ n < 2375840) ∨ (k = 10 ∧ n < 2374480)
abbrev CallL (w : World) (loose : List Str) (mean : ExcName → Option Value) (mg mb : Str → Option Value) (f : Addr) (news : List (Addr × Obj)) (vs : List Value) (pre : Prop)
    (Ret : Heap → Addr → (Str → Option Value) → List (Addr × Obj) → Shared → (Value → Shared → Prop) → Prop) : Prop :=
  ∀ (cn : Str) (cs : Scope) (a : Addr) (ccd : Value) (h₀ : Heap) (L : Addr) (m : Str → Option Value) (s : Shared) (Q E : Value → Shared → Prop),
    Below callerA h₀ [] h₀ → Fr h₀ L s.heap m → (hd.heap_39 w.params).In h₀ → News h₀ L s.heap news → Top hd.view_39 loose mean mg mb h₀ → cs.kind = .function → pre → Ret h₀ L m news s Q →
      wpAny (model PG w) (callerA.deeper (envOf cn cs L a ccd)) (call (.ref f) vs) Q E s
theorem refused_5 (news) (n : Int) (t1 t2 : Tok) : CallL w loose mean mg mb 566 news [.int 5 t1, .int n t2] (n < 584283) (RetB true) := by
  refine unwrap ?_
  simp (disch := k_dflt (
    k_with_none
    dsimp only [CallL]
    intro cn cs aF ccd h₀ L mp s Q E B F X N T hk hpre hret
    refine wpAny_call ?_
    k_dflt (refine' code_defS0 ?k1 ?k2 ?k3 ?k4 ?k5 ?kA ?k6 ?k7 ?k8 ?k9 ?kB ?_ ?cK ?c2 ?c3 ?c4 ?c5; (case kA => exact rfl); (case k2 => k_asm); (case k1 => k_asm); (case k3 => k_asm); (case k4 => k_asm); (case k5 => k_asm); (case k6 => k_is); (case k7 => k_is); (case k8 => k_room); (case k9 => first | exact binds_K (by k_in) rfl (by k_is) rfl rfl rfl | exact BindsTo.of_eq rfl); (case kB => exact locs rfl); (case cK => assumption); (case c2 => exact rfl); (case c3 => exact rfl); (case c4 => exact rfl); (case c5 => decide); k_whole; intro g' L' h' FG' F' N' B' X' T' D'; (try dsimp only); (try k_lift B'); (try k_fold))
    k_steps
    all_goals (refine' endB hret ?q7a ?q7f ?q7n ?q7s; (case q7f => k_asm); (case q7n => k_asm); (case q7s => exact fun _ h => h); (case q7a => rfl)))) only [↓wrap_true]
theorem refused_6 (news) (n : Int) (t1 t2 : Tok) : CallL w loose mean mg mb 566 news [.int 6 t1, .int n t2] (n < 1922502) (RetB true) := by
  refine unwrap ?_
  simp (disch := k_dflt (
    k_with_none
    dsimp only [CallL]
    intro cn cs aF ccd h₀ L mp s Q E B F X N T hk hpre hret
    refine wpAny_call ?_
    k_dflt (refine' code_defS0 ?k1 ?k2 ?k3 ?k4 ?k5 ?kA ?k6 ?k7 ?k8 ?k9 ?kB ?_ ?cK ?c2 ?c3 ?c4 ?c5; (case kA => exact rfl); (case k2 => k_asm); (case k1 => k_asm); (case k3 => k_asm); (case k4 => k_asm); (case k5 => k_asm); (case k6 => k_is); (case k7 => k_is); (case k8 => k_room); (case k9 => first | exact binds_K (by k_in) rfl (by k_is) rfl rfl rfl | exact BindsTo.of_eq rfl); (case kB => exact locs rfl); (case cK => assumption); (case c2 => exact rfl); (case c3 => exact rfl); (case c4 => exact rfl); (case c5 => decide); k_whole; intro g' L' h' FG' F' N' B' X' T' D'; (try dsimp only); (try k_lift B'); (try k_fold))
    k_steps
    all_goals (refine' endB hret ?q7a ?q7f ?q7n ?q7s; (case q7f => k_asm); (case q7n => k_asm); (case q7s => exact fun _ h => h); (case q7a => rfl)))) only [↓wrap_true]
theorem refused_7 (news) (n : Int) (t1 t2 : Tok) : CallL w loose mean mg mb 566 news [.int 7 t1, .int n t2] (n < 2117211) (RetB true) := by
  refine unwrap ?_
  simp (disch := k_dflt (
    k_with_none
    dsimp only [CallL]
    intro cn cs aF ccd h₀ L mp s Q E B F X N T hk hpre hret
    refine wpAny_call ?_
    k_dflt (refine' code_defS0 ?k1 ?k2 ?k3 ?k4 ?k5 ?kA ?k6 ?k7 ?k8 ?k9 ?kB ?_ ?cK ?c2 ?c3 ?c4 ?c5; (case kA => exact rfl); (case k2 => k_asm); (case k1 => k_asm); (case k3 => k_asm); (case k4 => k_asm); (case k5 => k_asm); (case k6 => k_is); (case k7 => k_is); (case k8 => k_room); (case k9 => first | exact binds_K (by k_in) rfl (by k_is) rfl rfl rfl | exact BindsTo.of_eq rfl); (case kB => exact locs rfl); (case cK => assumption); (case c2 => exact rfl); (case c3 => exact rfl); (case c4 => exact rfl); (case c5 => decide); k_whole; intro g' L' h' FG' F' N' B' X' T' D'; (try dsimp only); (try k_lift B'); (try k_fold))
    k_steps
    all_goals (refine' endB hret ?q7a ?q7f ?q7n ?q7s; (case q7f => k_asm); (case q7n => k_asm); (case q7s => exact fun _ h => h); (case q7a => rfl)))) only [↓wrap_true]
theorem refused_9 (news) (n : Int) (t1 t2 : Tok) : CallL w loose mean mg mb 566 news [.int 9 t1, .int n t2] (n < 2375840) (RetB true) := by
  refine unwrap ?_
  simp (disch := k_dflt (
    k_with_none
    dsimp only [CallL]
    intro cn cs aF ccd h₀ L mp s Q E B F X N T hk hpre hret
    refine wpAny_call ?_
    k_dflt (refine' code_defS0 ?k1 ?k2 ?k3 ?k4 ?k5 ?kA ?k6 ?k7 ?k8 ?k9 ?kB ?_ ?cK ?c2 ?c3 ?c4 ?c5; (case kA => exact rfl); (case k2 => k_asm); (case k1 => k_asm); (case k3 => k_asm); (case k4 => k_asm); (case k5 => k_asm); (case k6 => k_is); (case k7 => k_is); (case k8 => k_room); (case k9 => first | exact binds_K (by k_in) rfl (by k_is) rfl rfl rfl | exact BindsTo.of_eq rfl); (case kB => exact locs rfl); (case cK => assumption); (case c2 => exact rfl); (case c3 => exact rfl); (case c4 => exact rfl); (case c5 => decide); k_whole; intro g' L' h' FG' F' N' B' X' T' D'; (try dsimp only); (try k_lift B'); (try k_fold))
    k_steps
    all_goals (refine' endB hret ?q7a ?q7f ?q7n ?q7s; (case q7f => k_asm); (case q7n => k_asm); (case q7s => exact fun _ h => h); (case q7a => rfl)))) only [↓wrap_true]
local macro_rules | `(tactic| walk_at "noteFrame ref") => `(tactic| (k_here; (with_reducible show wpAny _ _ (noteFrame _ _) (fun _ s₂ => wpAny _ _ (setFlight _ none) (fun _ s₃ => wpAny _ _ (handleBy _ _ (ExceptHandler.ExceptHandler (some (Expr.Name ("AssertionError" : Str) _)) (some _) [Stmt.Raise (some _) (some _) _] _ :: _)) _ _ s₃) _ s₂) _ _); (rename Heap.NewExc _ _ _ _ => nxX); k_dflt (refine' caught_raise nxX ?F ?N ?K ?XB ?TB ?ex ?ey ?_ ?hk ?hlo ?hl2 ?hd ?hx ?hy; (case F => k_asm); (case N => k_asm); (case K => assumption); (case XB => k_asm); (case TB => k_asm); (case ex => k_is); (case ey => k_is); (case hk => rfl); (case hlo => rfl); (case hl2 => decide +kernel); (case hd => decide +kernel); (case hx => rfl); (case hy => rfl)); intro h' tk' u' S' R' U'; (try dsimp only at S' R' U' ⊢)))
theorem refused_10 (news) (n : Int) (t1 t2 : Tok) : CallL w loose mean mg mb 566 news [.int 10 t1, .int n t2] (n < 2374480) (RetB true) := by
  refine unwrap ?_
  simp (disch := k_dflt (
    k_with_none
    dsimp only [CallL]
    intro cn cs aF ccd h₀ L mp s Q E B F X N T hk hpre hret
    refine wpAny_call ?_
    k_dflt (refine' code_defS0 ?k1 ?k2 ?k3 ?k4 ?k5 ?kA ?k6 ?k7 ?k8 ?k9 ?kB ?_ ?cK ?c2 ?c3 ?c4 ?c5; (case kA => exact rfl); (case k2 => k_asm); (case k1 => k_asm); (case k3 => k_asm); (case k4 => k_asm); (case k5 => k_asm); (case k6 => k_is); (case k7 => k_is); (case k8 => k_room); (case k9 => first | exact binds_K (by k_in) rfl (by k_is) rfl rfl rfl | exact BindsTo.of_eq rfl); (case kB => exact locs rfl); (case cK => assumption); (case c2 => exact rfl); (case c3 => exact rfl); (case c4 => exact rfl); (case c5 => decide); k_whole; intro g' L' h' FG' F' N' B' X' T' D'; (try dsimp only); (try k_lift B'); (try k_fold))
    k_steps
    all_goals (refine' endB hret ?q7a ?q7f ?q7n ?q7s; (case q7f => k_asm); (case q7n => k_asm); (case q7s => exact fun _ h => h); (case q7a => rfl)))) only [↓wrap_true]
theorem refused_spec (news) (k n : Int) (t1 t2 : Tok) : CallL w loose mean mg mb 566 news [.int k t1, .int n t2] (RP k n) (RetB true) := by
  intro cn cs aF ccd h₀ L mp s Q E B F X N T hk hpre hret
  rcases hpre with ⟨rfl, h⟩ | ⟨rfl, h⟩ | ⟨rfl, h⟩ | ⟨rfl, h⟩ | ⟨rfl, h⟩
  · exact refused_5 news n t1 t2 cn cs aF ccd h₀ L mp s Q E B F X N T hk h hret
  · exact refused_6 news n t1 t2 cn cs aF ccd h₀ L mp s Q E B F X N T hk h hret
  · exact refused_7 news n t1 t2 cn cs aF ccd h₀ L mp s Q E B F X N T hk h hret
  · exact refused_9 news n t1 t2 cn cs aF ccd h₀ L mp s Q E B F X N T hk h hret
  · exact refused_10 news n t1 t2 cn cs aF ccd h₀ L mp s Q E B F X N T hk h hret
end
theorem by_law {P : Prop} (h : P) : P := h
section
variable {M : Program} {wd : World} {A : Around} {E : Value → Shared → Prop} {s : Shared}
theorem mod_lit {a b : Int} {t u : Tok} {Q : Value → Shared → Prop} (hb : 0 < b) (h : Q (.int (a % b) s.toks) { s with toks := s.toks + 1 }) : wpAny (model M wd) A (binaryOp .Mod (.int a t) (.int b u)) Q E s :=
  mod_int' (by omega) (by rw [Int.fmod_eq_emod_of_nonneg a (by omega)]; exact h)
theorem div_lit {a b : Int} {t u : Tok} {Q : Value → Shared → Prop} (hb : 0 < b ∧ b < 1073741824) (h : Q (.int (a / b) s.toks) { s with toks := s.toks + 1 }) : wpAny (model M wd) A (binaryOp .FloorDiv (.int a t) (.int b u)) Q E s :=
  floordiv_int (by omega) (by rw [Int.fdiv_eq_ediv_of_nonneg a (by omega)]; exact h) (.inl (PyProof.noPylong_small (by omega)))
end
local macro_rules | `(tactic| walk_at "binaryOp Mod int int") => `(tactic| (k_here; (refine' mod_lit ?hb ?_; (case hb => first | decide | omega)); (try dsimp only)))
local macro_rules | `(tactic| walk_at "binaryOp FloorDiv int int") => `(tactic| (k_here; (refine' div_lit ?hb ?_; (case hb => first | decide | omega)); (try dsimp only)))
local macro_rules | `(tactic| walk_at "exec Raise some none") => `(tactic| (k_here; exfalso; k_extra "raise"))
local macro_rules | `(tactic| walk_at "exec Raise some some") => `(tactic| (k_here; exfalso; k_extra "raise"))
section
variable {M : Program} {wd : World} {A : Around} {E : Value → Shared → Prop} {s : Shared}
def memOr (k : Int) : List Int → Prop
  | [] => False
  | [x] => k = x
  | x :: y :: r => k = x ∨ memOr k (y :: r)
def memAnd (k : Int) : List Int → Prop
  | [] => True
  | [x] => ¬ k = x
  | x :: y :: r => ¬ k = x ∧ memAnd k (y :: r)
theorem mem_ways (k : Int) : ∀ ns : List Int, (ns.any (· == k) = true ∧ memOr k ns) ∨ (ns.any (· == k) = false ∧ memAnd k ns)
  | [] => .inr ⟨rfl, True.intro⟩
  | [x] => by
    by_cases h : x = k
    · exact .inl ⟨by simp [h], h.symm⟩
    · exact .inr ⟨by simp [h], fun e => h e.symm⟩
  | x :: y :: r => by
    rcases mem_ways k (y :: r) with ⟨h1, h2⟩ | ⟨h1, h2⟩
    · exact .inl ⟨by rw [List.any_cons, h1, Bool.or_true], .inr h2⟩
    · by_cases h : x = k
      · exact .inl ⟨by rw [List.any_cons]; simp [h], .inl h.symm⟩
      · exact .inr ⟨by rw [List.any_cons, h1]; simp [h], fun e => h e.symm, h2⟩
theorem in_topTup {K : Frag} {h₀ : Heap} {L a : Addr} {mp : Str → Option Value} {dd : Option Addr} {n : Nat} {sl : Array (Option Value)} {l : List Value} {ns : List Int} {k : Int} {t : Tok} {Q : Value → Shared → Prop}
    (F : Fr h₀ L s.heap mp) (X₀ : K.In h₀) (hl : K.lookup a = some ⟨.type "tuple", dd, .seq l.toArray n, sl⟩) (hi : IntsAre l ns)
    (ht : memOr k ns → Q (.bool true) s) (hf : memAnd k ns → Q (.bool false) s) : wpAny (model M wd) A (compareOp .In (.int k t) (.ref a)) Q E s := by
  refine in_tuple_ints (tupK (X₀.keeps F.keep) hl) hi ?_
  rcases mem_ways k ns with ⟨h1, h2⟩ | ⟨h1, h2⟩
  · rw [h1]; exact ht h2
  · rw [h1]; exact hf h2
theorem notin_topTup {K : Frag} {h₀ : Heap} {L a : Addr} {mp : Str → Option Value} {dd : Option Addr} {n : Nat} {sl : Array (Option Value)} {l : List Value} {ns : List Int} {k : Int} {t : Tok} {Q : Value → Shared → Prop}
    (F : Fr h₀ L s.heap mp) (X₀ : K.In h₀) (hl : K.lookup a = some ⟨.type "tuple", dd, .seq l.toArray n, sl⟩) (hi : IntsAre l ns)
    (ht : memOr k ns → Q (.bool false) s) (hf : memAnd k ns → Q (.bool true) s) : wpAny (model M wd) A (compareOp .NotIn (.int k t) (.ref a)) Q E s := by
  refine notin_tuple_ints (tupK (X₀.keeps F.keep) hl) hi ?_
  rcases mem_ways k ns with ⟨h1, h2⟩ | ⟨h1, h2⟩
  · rw [h1]; exact ht h2
  · rw [h1]; exact hf h2
theorem in_ledTup {h₀ : Heap} {L a : Addr} {news : List (Addr × Obj)} {n : Nat} {l : List Value} {ns : List Int} {k : Int} {t : Tok} {Q : Value → Shared → Prop}
    (N : News h₀ L s.heap news) (hm : (a, ({ cls := .type "tuple", data := .seq l.toArray n } : Obj)) ∈ news) (hi : IntsAre l ns)
    (ht : memOr k ns → Q (.bool true) s) (hf : memAnd k ns → Q (.bool false) s) : wpAny (model M wd) A (compareOp .In (.int k t) (.ref a)) Q E s := by
  refine in_tuple_ints (News.isTup N hm) hi ?_
  rcases mem_ways k ns with ⟨h1, h2⟩ | ⟨h1, h2⟩
  · rw [h1]; exact ht h2
  · rw [h1]; exact hf h2
end
local macro_rules | `(tactic| walk_at "compareOp In int ref") => `(tactic| (k_here; k_dflt (refine' in_ledTup ?N ?m ?i ?_ ?_; (case N => k_asm); (case m => k_mem); (case i => (repeat constructor))); (all_goals (intro hin; simp only [memOr, memAnd] at hin))))
local macro_rules | `(tactic| walk_at "compareOp In int ref") => `(tactic| (k_here; k_dflt (refine' in_topTup ?F ?X ?l ?i ?_ ?_; (case F => k_asm); (case X => k_asm); (case l => k_is); (case i => (repeat constructor))); (all_goals (intro hin; simp only [memOr, memAnd] at hin))))
local macro_rules | `(tactic| walk_at "compareOp NotIn int ref") => `(tactic| (k_here; k_dflt (refine' notin_topTup ?F ?X ?l ?i ?_ ?_; (case F => k_asm); (case X => k_asm); (case l => k_is); (case i => (repeat constructor))); (all_goals (intro hin; simp only [memOr, memAnd] at hin))))
local macro_rules | `(tactic| walk_at "eval Call") => `(tactic| (k_here; (with_reducible show wpAny _ _ (eval (Expr.Call (Expr.Name _ _) _ [] _) _) _ _ _); k_dflt (refine Call_ ?_)))

-- A0b
section
-- names as numbers: a name's number tells it from another without reading texts twice
def nm (s : Str) : Nat := s.cps.toList.foldl (fun a c => a * 1114112 + c) 1
theorem nm_ne {a b : Str} (h : nm a ≠ nm b) : a ≠ b := fun e => h (by rw [e])
def ndN : List Nat → Bool
  | [] => true
  | x :: r => (r.all fun y => !(Nat.beq x y)) && ndN r
def okN (names : List (Str × NameKind)) : Bool := ndN (nm (Str.ofString "__debug__") :: names.map fun p => nm p.1)
theorem ndN_head {x : Nat} {r : List Nat} (h : ndN (x :: r) = true) {y : Nat} (hy : y ∈ r) : x ≠ y := by
  simp only [ndN, Bool.and_eq_true, List.all_eq_true] at h
  intro e
  have := h.1 y hy
  rw [e] at this
  simp at this
theorem ndN_tail {x : Nat} {r : List Nat} (h : ndN (x :: r) = true) : ndN r = true := by
  simp only [ndN, Bool.and_eq_true] at h
  exact h.2
theorem ndN_cons {x y : Nat} {r : List Nat} (h : ndN (x :: y :: r) = true) : ndN (x :: r) = true := by
  simp only [ndN, Bool.and_eq_true, List.all_eq_true] at h ⊢
  exact ⟨fun z hz => h.1 z (.tail _ hz), h.2.2⟩
theorem okN_tail {p : Str × NameKind} {ns : List (Str × NameKind)} (h : okN (p :: ns) = true) : okN ns = true := ndN_cons h
def posMap : List (Str × NameKind) → List (Option Value) → Str → Option Value
  | (k, _) :: ns, v :: vs, z => if z = k then v else posMap ns vs z
  | _, _, _ => none
inductive Lk (x : Str) (k : NameKind) : List (Str × NameKind) → Prop where
  | here {ns} : Lk x k ((x, k) :: ns)
  | there {n ns} : Lk x k ns → Lk x k (n :: ns)
inductive At (x : Str) (v : Option Value) : List (Str × NameKind) → List (Option Value) → Prop where
  | here {ns vs} : At x v ((x, .local) :: ns) (v :: vs)
  | there {n ns u vs} : At x v ns vs → At x v (n :: ns) (u :: vs)
inductive St (x : Str) (v : Option Value) : List (Str × NameKind) → List (Option Value) → List (Option Value) → Prop where
  | here {ns u vs} : St x v ((x, .local) :: ns) (u :: vs) (v :: vs)
  | there {n ns u vs vs'} : St x v ns vs vs' → St x v (n :: ns) (u :: vs) (u :: vs')
inductive Nones : List (Str × NameKind) → List (Option Value) → Prop where
  | nil : Nones [] []
  | cons {n ns vs} : Nones ns vs → Nones (n :: ns) (none :: vs)
inductive Sts (ns : List (Str × NameKind)) : List (Str × Value) → List (Option Value) → Prop where
  | nil {vs} : Nones ns vs → Sts ns [] vs
  | cons {x v l vs vs'} : Sts ns l vs → St x (some v) ns vs vs' → Sts ns ((x, v) :: l) vs'
theorem Lk.mem {x k ns} (h : Lk x k ns) : nm x ∈ ns.map fun p => nm p.1 := by
  induction h with
  | here => exact .head _
  | there _ ih => exact .tail _ ih
theorem Lk.lookup {x k ns} (hnd : okN ns = true) (h : Lk x k ns) : ns.lookup x = some k ∧ (x == ("__debug__" : Str)) = false := by
  have hd : nm (Str.ofString "__debug__") ≠ nm x := ndN_head hnd h.mem
  refine ⟨?_, by simpa using (nm_ne hd).symm⟩
  induction h with
  | here => simp
  | @there n ns h ih =>
    have hne : nm n.1 ≠ nm x := ndN_head (ndN_tail hnd) h.mem
    rw [List.lookup_cons, show (x == n.1) = false by simpa using (nm_ne hne).symm]
    exact ih (okN_tail hnd)
theorem At.lk {x v ns vs} (h : At x v ns vs) : Lk x .local ns := by
  induction h with
  | here => exact .here
  | there _ ih => exact .there ih
theorem St.lk {x v ns vs vs'} (h : St x v ns vs vs') : Lk x .local ns := by
  induction h with
  | here => exact .here
  | there _ ih => exact .there ih
theorem At.get {x v ns vs} (hnd : okN ns = true) (h : At x v ns vs) : posMap ns vs x = v := by
  induction h with
  | here => exact if_pos rfl
  | @there n ns u vs h ih =>
    have hne : nm n.1 ≠ nm x := ndN_head (ndN_tail hnd) h.lk.mem
    show (if x = n.1 then u else posMap ns vs x) = v
    rw [if_neg (nm_ne hne).symm]
    exact ih (okN_tail hnd)
theorem St.set {x v ns vs vs'} (hnd : okN ns = true) (h : St x v ns vs vs') : (fun y => if y = x then v else posMap ns vs y) = posMap ns vs' := by
  induction h with
  | @here ns u vs =>
    funext y
    show (if y = x then v else if y = x then u else posMap ns vs y) = if y = x then v else posMap ns vs y
    by_cases h : y = x
    · rw [if_pos h, if_pos h]
    · rw [if_neg h, if_neg h, if_neg h]
  | @there n ns u vs vs' h ih =>
    have hne : nm n.1 ≠ nm x := ndN_head (ndN_tail hnd) h.lk.mem
    funext y
    show (if y = x then v else if y = n.1 then u else posMap ns vs y) = if y = n.1 then u else posMap ns vs' y
    have i := congrFun (ih (okN_tail hnd)) y
    by_cases h1 : y = n.1
    · rw [if_pos h1, if_pos h1, if_neg (by rw [h1]; exact nm_ne hne)]
    · rw [if_neg h1, if_neg h1]
      exact i
def bindMap : List (Str × Value) → Str → Option Value
  | [], _ => none
  | (k, v) :: r, z => if z = k then some v else bindMap r z
theorem lookup_bind : ∀ l : List (Str × Value), (fun z => List.lookup z l) = bindMap l
  | [] => rfl
  | (k, v) :: r => by
    funext z
    show List.lookup z ((k, v) :: r) = if z = k then some v else bindMap r z
    rw [List.lookup_cons, ← lookup_bind r]
    by_cases h : z = k
    · simp [h]
    · rw [if_neg h]
      have : (z == k) = false := by simpa using h
      rw [this]
theorem Nones.get {ns vs} (h : Nones ns vs) : posMap ns vs = fun _ => none := by
  induction h with
  | nil => rfl
  | @cons n ns vs _ ih =>
    funext y
    show (if y = n.1 then none else posMap ns vs y) = none
    rw [ih]
    by_cases h : y = n.1
    · rw [if_pos h]
    · rw [if_neg h]
theorem Sts.get {ns l vs} (hnd : okN ns = true) (h : Sts ns l vs) : bindMap l = posMap ns vs := by
  induction h with
  | nil h => rw [h.get]; rfl
  | cons _ hs ih =>
    rw [← hs.set hnd, ← ih]
    rfl
variable {M : Model} {A : Around} {E : Value → Shared → Prop} {s : Shared} {h₀ : Heap} {L a : Addr} {cn : Str} {cs : Scope} {ccd : Value} {cl : List (Str × Addr)} {x : Str} {v : Value} {vs vs' : List (Option Value)} {ns : List (Str × NameKind)}
theorem startP {b : List Stmt} {Q : Flow → Shared → Prop} {h h1 : Heap} {k : Nat} {l l' : List (Str × Value)} (_hcs : cs.names = ns) (hnd : okN ns = true) (F : Fr h₀ L h (fun z => List.lookup z l)) (e : l = l') (S : Sts ns l' vs)
    (g : okN ns = true → Fr h₀ L h (posMap ns vs) → ∀ tk, wpAny M A (execs b (envX cn cs L a ccd cl)) Q E { s with heap := h1, toks := tk }) : wpAny M A (execs b (envX cn cs L a ccd cl)) Q E { s with heap := h1, toks := k } := by
  subst e
  rw [lookup_bind, S.get hnd] at F
  exact g hnd F k
theorem storeP {news : List (Addr × Obj)} {Q : Unit → Shared → Prop} (hnd : okN ns = true) (hcs : cs.names = ns) (F : Fr h₀ L s.heap (posMap ns vs)) (N : News h₀ L s.heap news)
    (hst : St x (some v) ns vs vs') (hk : cs.kind = .function)
    (h : ∀ h', Fr h₀ L h' (posMap ns vs') → News h₀ L h' news → Q () { s with heap := h', toks := s.toks + 1 }) : wpAny M A (storeName (envX cn cs L a ccd cl) x v) Q E s := by
  subst hcs
  exact storeX_L F N (fun h' F' N' => h h' (by rw [hst.set hnd] at F'; exact F') N') hk (hst.lk.lookup hnd).1
theorem nameP {pos : Pos} {Q : Value → Shared → Prop} (hnd : okN ns = true) (hcs : cs.names = ns) (F : Fr h₀ L s.heap (posMap ns vs)) (hat : At x (some v) ns vs) (hk : cs.kind = .function) (h : Q v s) :
    wpAny M A (eval (.Name x pos) (envX cn cs L a ccd cl)) Q E s := by
  subst hcs
  exact nameX_L F (hat.get hnd) h hk (hat.lk.lookup hnd).1 (hat.lk.lookup hnd).2
theorem loadP {Q : Value → Shared → Prop} (hnd : okN ns = true) (hcs : cs.names = ns) (F : Fr h₀ L s.heap (posMap ns vs)) (hat : At x (some v) ns vs) (hk : cs.kind = .function) (h : Q v s) :
    wpAny M A (loadName (envX cn cs L a ccd cl) x) Q E s := by
  subst hcs
  exact wpAny_loadName_local hk (hat.lk.lookup hnd).1 F.ns (hat.get hnd) h
theorem nameG {K : Frag} {mp mg mb : Str → Option Value} {p : Program} {loose : List Str} {pos : Pos} {Q : Value → Shared → Prop} (hnd : okN ns = true) (hcs : cs.names = ns) (hl : Lk x .globalImplicit ns) (e : nsIn K mainGlobals x = some (some v))
    (F : Fr h₀ L s.heap mp) (X : K.In h₀) (T : TopRead p loose mg mb h₀) (hk : cs.kind = .function) (h : Q v s) :
    wpAny M A (eval (.Name x pos) (envX cn cs L a ccd cl)) Q E s := by
  subst hcs
  exact nameX_K F X T e h hk (hl.lookup hnd).1 (hl.lookup hnd).2
theorem nameBI {K : Frag} {mp mg mb : Str → Option Value} {p : Program} {loose : List Str} {pos : Pos} {Q : Value → Shared → Prop} (hnd : okN ns = true) (hcs : cs.names = ns) (hl : Lk x .globalImplicit ns) (e : nsIn K mainGlobals x = some none ∧ bootBuiltins x = some v ∧ x ≠ "__name__")
    (F : Fr h₀ L s.heap mp) (X : K.In h₀) (T : TopRead p loose mg mb h₀) (hk : cs.kind = .function) (h : Q v s) :
    wpAny M A (eval (.Name x pos) (envX cn cs L a ccd cl)) Q E s := by
  subst hcs
  exact nameX_B F X T e.1 e.2.1 e.2.2 h hk (hl.lookup hnd).1 (hl.lookup hnd).2
end
local macro_rules | `(tactic| walk_at "eval Name") => `(tactic| (k_here; k_dflt (first
  | (refine' nameP ?nn1 ?cn1 ?Fn1 ?an1 ?kn1 ?_; (case nn1 => assumption); (case cn1 => rfl); (case kn1 => rfl); (case Fn1 => k_asm); (case an1 => with_reducible (repeat (first | exact At.here | refine At.there ?_))))
  | (refine' nameG ?nn2 ?cn2 ?ln2 ?en2 ?Fn2 ?Xn2 ?Tn2 ?kn2 ?_; (case nn2 => assumption); (case cn2 => rfl); (case kn2 => rfl); (case Xn2 => k_asm); (case en2 => with_reducible k_extra "gl"); (case ln2 => with_reducible (repeat (first | exact Lk.here | refine Lk.there ?_))); (case Fn2 => k_asm); (case Tn2 => k_asm))
  | (refine' nameBI ?nn3 ?cn3 ?ln3 ?en3 ?Fn3 ?Xn3 ?Tn3 ?kn3 ?_; (case nn3 => assumption); (case cn3 => rfl); (case kn3 => rfl); (case Xn3 => k_asm); (case en3 => with_reducible k_extra "gb"); (case ln3 => with_reducible (repeat (first | exact Lk.here | refine Lk.there ?_))); (case Fn3 => k_asm); (case Tn3 => k_asm)))))
local macro_rules | `(tactic| walk_at "loadName") => `(tactic| (k_here; k_dflt (refine' loadP ?nl1 ?cl1 ?Fl1 ?al1 ?kl1 ?_; (case nl1 => assumption); (case cl1 => rfl); (case kl1 => rfl); (case Fl1 => k_asm); (case al1 => with_reducible (repeat (first | exact At.here | refine At.there ?_))))))
local macro_rules | `(tactic| walk_at "storeName") => `(tactic| (k_here; k_dflt (refine' storeP ?ns1 ?cs1 ?Fs1 ?Ns1 ?ss1 ?ks1 ?_; (case ns1 => assumption); (case cs1 => rfl); (case ks1 => rfl); (case Fs1 => k_asm); (case Ns1 => k_asm); (case ss1 => with_reducible (repeat (first | exact St.here | apply St.there)))); intro h' F' N'; (try k_sweep)))
section
variable {M : Model} {A : Around} {E : Value → Shared → Prop} {s : Shared} {h₀ : Heap} {L a : Addr} {cn : Str} {cs : Scope} {ccd : Value} {cl : List (Str × Addr)} {ns : List (Str × NameKind)} {vs : List (Option Value)} {news : List (Addr × Obj)}
def CutEnd (h₀ : Heap) (L : Addr) (ns : List (Str × NameKind)) (vs' : Tok → List (Option Value)) (news : List (Addr × Obj)) (s : Shared) (f : Flow) (s' : Shared) : Prop :=
  f = .next ∧ ∃ (h : Heap) (tk : Nat) (t : Tok), s' = { s with heap := h, toks := tk } ∧ Fr h₀ L h (posMap ns (vs' t)) ∧ News h₀ L h news
theorem cut1 {st : Stmt} {rest : List Stmt} {env : Env} {Q : Flow → Shared → Prop} {vs' : Tok → List (Option Value)} (x : String) (r : Int) (hnd : okN ns = true) (_F : Fr h₀ L s.heap (posMap ns vs)) (_N : News h₀ L s.heap news) (hs : ∀ t, St (Str.ofString x) (some (.int r t)) ns vs (vs' t))
    (hb : okN ns = true → (∀ t, St (Str.ofString x) (some (.int r t)) ns vs (vs' t)) → wpAny M A (exec st env) (fun f s' => CutEnd h₀ L ns vs' news s f s') E s)
    (hk : ∀ t h tk, Fr h₀ L h (posMap ns (vs' t)) → News h₀ L h news → wpAny M A (execs rest env) Q E { s with heap := h, toks := tk }) : wpAny M A (execs (st :: rest) env) Q E s := by
  refine wpAny_execs_cons (wpAny_mono (hb hnd hs) (fun f s' hf => ?_) fun _ _ h => h)
  obtain ⟨rfl, h, tk, t, rfl, F, N⟩ := hf
  exact hk t h tk F N
theorem cutEnd {x : Str} {r y : Int} {t : Tok} {vs2 : List (Option Value)} {vs' : Tok → List (Option Value)} {h : Heap} {tk : Nat} {news' : List (Addr × Obj)} (hs : ∀ t, St x (some (.int r t)) ns vs (vs' t)) (hnd : okN ns = true) (e : y = r) (h2 : St x (some (.int y t)) ns vs vs2)
    (F : Fr h₀ L h (posMap ns vs2)) (N : News h₀ L h news') (hn : ∀ p ∈ news, p ∈ news') : CutEnd h₀ L ns vs' news s .next { s with heap := h, toks := tk } := by
  subst e
  refine ⟨rfl, h, tk, t, rfl, ?_, fun p hp => N p (hn p hp)⟩
  rw [← (hs t).set hnd, h2.set hnd]
  exact F
end
section
variable {M : Model} {A : Around} {E : Value → Shared → Prop} {s : Shared} {h₀ : Heap} {L a : Addr} {ns : List (Str × NameKind)} {vs : List (Option Value)} {news : List (Addr × Obj)}
def CutEnd2 (h₀ : Heap) (L : Addr) (ns : List (Str × NameKind)) (vs' : Tok → Tok → List (Option Value)) (news : List (Addr × Obj)) (s : Shared) (f : Flow) (s' : Shared) : Prop :=
  f = .next ∧ ∃ (h : Heap) (tk : Nat) (t u : Tok), s' = { s with heap := h, toks := tk } ∧ Fr h₀ L h (posMap ns (vs' t u)) ∧ News h₀ L h news
theorem cut2 {st : Stmt} {rest : List Stmt} {env : Env} {Q : Flow → Shared → Prop} {v1 : Tok → List (Option Value)} {vs' : Tok → Tok → List (Option Value)} (x : String) (r : Int) (y : String) (q : Int) (hnd : okN ns = true) (_F : Fr h₀ L s.heap (posMap ns vs)) (_N : News h₀ L s.heap news)
    (hs : ∀ t, St (Str.ofString x) (some (.int r t)) ns vs (v1 t)) (hs2 : ∀ t u, St (Str.ofString y) (some (.int q u)) ns (v1 t) (vs' t u))
    (hb : okN ns = true → (∀ t, St (Str.ofString x) (some (.int r t)) ns vs (v1 t)) → (∀ t u, St (Str.ofString y) (some (.int q u)) ns (v1 t) (vs' t u)) → wpAny M A (exec st env) (fun f s' => CutEnd2 h₀ L ns vs' news s f s') E s)
    (hk : ∀ t u h tk, Fr h₀ L h (posMap ns (vs' t u)) → News h₀ L h news → wpAny M A (execs rest env) Q E { s with heap := h, toks := tk }) : wpAny M A (execs (st :: rest) env) Q E s := by
  refine wpAny_execs_cons (wpAny_mono (hb hnd hs hs2) (fun f s' hf => ?_) fun _ _ h => h)
  obtain ⟨rfl, h, tk, t, u, rfl, F, N⟩ := hf
  exact hk t u h tk F N
theorem cutEnd2 {x y : Str} {r r' q q' : Int} {t u : Tok} {v1 : Tok → List (Option Value)} {va vb : List (Option Value)} {vs' : Tok → Tok → List (Option Value)} {h : Heap} {tk : Nat} {news' : List (Addr × Obj)}
    (hs : ∀ t, St x (some (.int r t)) ns vs (v1 t)) (hs2 : ∀ t u, St y (some (.int q u)) ns (v1 t) (vs' t u)) (hnd : okN ns = true) (e : r' = r) (e2 : q' = q) (h1 : St x (some (.int r' t)) ns vs va) (h2 : St y (some (.int q' u)) ns va vb)
    (F : Fr h₀ L h (posMap ns vb)) (N : News h₀ L h news') (hn : ∀ p ∈ news, p ∈ news') : CutEnd2 h₀ L ns vs' news s .next { s with heap := h, toks := tk } := by
  subst e e2
  refine ⟨rfl, h, tk, t, u, rfl, ?_, fun p hp => N p (hn p hp)⟩
  rw [← (hs2 t u).set hnd, ← (hs t).set hnd, h1.set hnd, h2.set hnd]
  exact F
end
local macro_rules | `(tactic| walk_at "CutEnd2") => `(tactic| (k_here; k_dflt (refine' cutEnd2 (by assumption) (by assumption) (by assumption) ?zde ?zdg ?zds ?zdt ?zdf ?zdn ?zdm; (case zds => with_reducible (repeat (first | exact St.here | apply St.there))); (case zdt => with_reducible (repeat (first | exact St.here | apply St.there))); (case zdf => k_asm); (case zdn => k_asm); (case zdm => first | exact fun _ h => h | exact fun _ h => .tail _ h | exact fun _ h => .tail _ (.tail _ h) | exact fun _ h => .tail _ (.tail _ (.tail _ h))); (case zde => k_extra "cuteq"); (case zdg => k_extra "cuteq"))))
local macro_rules | `(tactic| walk_at "CutEnd") => `(tactic| (k_here; k_dflt (refine' cutEnd (by assumption) (by assumption) ?zce ?zcs ?zcf ?zcn ?zcm; (case zcs => with_reducible (repeat (first | exact St.here | apply St.there))); (case zcf => k_asm); (case zcn => k_asm); (case zcm => first | exact fun _ h => h | exact fun _ h => .tail _ h | exact fun _ h => .tail _ (.tail _ h) | exact fun _ h => .tail _ (.tail _ (.tail _ h))); (case zce => k_extra "cuteq"))))
theorem mul_lit_r {M : Program} {wd : World} {A : Around} {E : Value → Shared → Prop} {s : Shared} {a b : Int} {t u : Tok} {Q : Value → Shared → Prop} (hb : -1073741824 < b ∧ b < 1073741824) (h : Q (.int (a * b) s.toks) { s with toks := s.toks + 1 }) : wpAny (model M wd) A (binaryOp .Mult (.int a t) (.int b u)) Q E s :=
  mul_int h (PySem.IntMulOk.of_right (PySem.intBits_le_64 (by omega) (by omega)))
theorem mul_lit_l {M : Program} {wd : World} {A : Around} {E : Value → Shared → Prop} {s : Shared} {a b : Int} {t u : Tok} {Q : Value → Shared → Prop} (hb : -1073741824 < a ∧ a < 1073741824) (h : Q (.int (a * b) s.toks) { s with toks := s.toks + 1 }) : wpAny (model M wd) A (binaryOp .Mult (.int a t) (.int b u)) Q E s :=
  mul_int h (PySem.IntMulOk.of_left (PySem.intBits_le_64 (by omega) (by omega)))
local macro_rules | `(tactic| walk_at "binaryOp Mult int int") => `(tactic| (k_here; (first | (refine' mul_lit_r ?hm1 ?_; (case hm1 => (constructor <;> simp only [Int.reduceNeg, Int.reduceLT]))) | (refine' mul_lit_l ?hm2 ?_; (case hm2 => (constructor <;> simp only [Int.reduceNeg, Int.reduceLT])))); (try dsimp only)))
local macro_rules | `(tactic| walk_at "exec Assign") => `(tactic| (k_here; k_dflt (refine wpAny_Assign_Name ?_)))
local macro_rules | `(tactic| walk_at "execs cons Assign cons") => `(tactic| (k_here; (with_reducible show wpAny _ _ (execs (Stmt.Assign [Expr.Name _ _] _ _ :: _) _) _ _ _); (with_reducible refine wpAny_execs_cons ?_); (try dsimp only)))
local macro_rules | `(tactic| walk_at "execs cons Assign nil") => `(tactic| (k_here; (with_reducible show wpAny _ _ (execs (Stmt.Assign [Expr.Name _ _] _ _ :: _) _) _ _ _); (with_reducible refine wpAny_execs_cons ?_); (try dsimp only)))
local macro_rules | `(tactic| walk_at "execs cons If cons") => `(tactic| (k_here; first | k_extra "cut" | ((with_reducible refine wpAny_execs_cons ?_); (try dsimp only))))
local macro_rules | `(tactic| walk_at "execs cons If nil") => `(tactic| (k_here; (with_reducible refine wpAny_execs_cons ?_); (try dsimp only)))
local macro_rules | `(tactic| walk_at "execs cons Return nil") => `(tactic| (k_here; (with_reducible refine wpAny_execs_cons ?_); (try dsimp only)))
local macro_rules | `(tactic| walk_at "execs cons Return cons") => `(tactic| (k_here; (with_reducible refine wpAny_execs_cons ?_); (try dsimp only)))
local macro_rules | `(tactic| walk_at "execs cons AugAssign cons") => `(tactic| (k_here; (with_reducible refine wpAny_execs_cons ?_); (try dsimp only)))
local macro_rules | `(tactic| walk_at "execs cons AugAssign nil") => `(tactic| (k_here; (with_reducible refine wpAny_execs_cons ?_); (try dsimp only)))
local macro_rules | `(tactic| walk_at "eval BinOp") => `(tactic| (k_here; (with_reducible refine wpAny_BinOp ?_)))
local macro_rules | `(tactic| walk_at "execs nil") => `(tactic| (k_here; (with_reducible refine wpAny_execs_nil ?_); (try dsimp only)))
local macro_rules | `(tactic| walk_at "execs cons") => `(tactic| (k_here; (with_reducible refine wpAny_execs_cons ?_); (try dsimp only)))

-- A0w
section
variable {prog : Program} {wd : World} {A : Around} {E : Value → Shared → Prop} {s : Shared} {env : Env} {h₀ : Heap} {L : Addr} {ns : List (Str × NameKind)} {news : List (Addr × Obj)}
def WhEnd {σ : Type} (h₀ : Heap) (L : Addr) (ns : List (Str × NameKind)) (news : List (Addr × Obj)) (vs : σ → List (Option Value)) (P : σ → Prop) (μ : σ → Nat) (s : Shared) (c : σ) (s' : Shared) : Prop :=
  ∃ (c' : σ) (h : Heap) (tk : Nat), s' = { s with heap := h, toks := tk } ∧ Fr h₀ L h (posMap ns (vs c')) ∧ News h₀ L h news ∧ P c' ∧ μ c' < μ c
def WhPost {σ : Type} (h₀ : Heap) (L : Addr) (ns : List (Str × NameKind)) (news : List (Addr × Obj)) (vs : σ → List (Option Value)) (P : σ → Prop) (μ : σ → Nat) (Q : Flow → Shared → Prop) (s : Shared) (c : σ) (f : Flow) (s' : Shared) : Prop :=
  match f with
  | .ret v => Q (.ret v) s'
  | .brk => Q .next s'
  | _ => WhEnd h₀ L ns news vs P μ s c s'
theorem whileG {σ : Type} {test : Expr} {body : List Stmt} {pos : Pos} {Q : Flow → Shared → Prop} (vs : σ → List (Option Value)) (P : σ → Prop) (μ : σ → Nat) (c₀ : σ)
    (F : Fr h₀ L s.heap (posMap ns (vs c₀))) (N : News h₀ L s.heap news) (hp : P c₀)
    (turn : ∀ c h tk, P c → Fr h₀ L h (posMap ns (vs c)) → News h₀ L h news →
      wpAny (model prog wd) A (isTrue test env (eval test env)) (fun b s₂ => if b = true then wpAny (model prog wd) A (execs body env) (WhPost h₀ L ns news vs P μ Q s c) (fun _ _ => False) s₂ else Q .next s₂) (fun _ _ => False) { s with heap := h, toks := tk }) :
    wpAny (model prog wd) A (exec (.While test body [] pos) env) Q E s := by
  refine wpAny_noRaise (While_inv2 (fun n m nx => ∃ c : σ, nx = news ∧ μ c = n ∧ m = posMap ns (vs c) ∧ P c) F N ⟨c₀, rfl, rfl, rfl, hp⟩ ?_ PassesOwn.never)
  rintro n m₁ nx h tk F₁ N₁ ⟨c, rfl, rfl, rfl, hc⟩
  refine wpAny_mono (turn c h tk hc F₁ N₁) (fun b s₂ p => ?_) fun _ _ x => x
  cases b with
  | false => simpa using p
  | true =>
    simp only [if_true] at p ⊢
    refine wpAny_mono p (fun f s₃ q => ?_) fun _ _ x => x
    cases f with
    | ret v => exact q
    | brk => exact q
    | next =>
      obtain ⟨c', h', tk', rfl, F', N', hp', hm⟩ := q
      exact ⟨h', tk', _, nx, μ c', rfl, F', N', hm, c', rfl, rfl, rfl, hp'⟩
    | cont =>
      obtain ⟨c', h', tk', rfl, F', N', hp', hm⟩ := q
      exact ⟨h', tk', _, nx, μ c', rfl, F', N', hm, c', rfl, rfl, rfl, hp'⟩
def WhExit {σ : Type} (h₀ : Heap) (L : Addr) (ns : List (Str × NameKind)) (news : List (Addr × Obj)) (vs : σ → List (Option Value)) (R : σ → Prop) (s : Shared) (c : σ) (s' : Shared) : Prop :=
  ∃ (h : Heap) (tk : Nat), s' = { s with heap := h, toks := tk } ∧ Fr h₀ L h (posMap ns (vs c)) ∧ News h₀ L h news ∧ R c
theorem whExit {σ : Type} {vs : σ → List (Option Value)} {R : σ → Prop} {c : σ} {h : Heap} {tk : Nat} {news' : List (Addr × Obj)} (F : Fr h₀ L h (posMap ns (vs c))) (N : News h₀ L h news') (hn : ∀ p ∈ news, p ∈ news') (hr : R c) :
    WhExit h₀ L ns news vs R s c { s with heap := h, toks := tk } := ⟨h, tk, rfl, F, fun p hp => N p (hn p hp), hr⟩
theorem whEnd {σ : Type} {vs : σ → List (Option Value)} {P : σ → Prop} {μ : σ → Nat} {c : σ} {h : Heap} {tk : Nat} {news' : List (Addr × Obj)} (c' : σ) (F : Fr h₀ L h (posMap ns (vs c'))) (N : News h₀ L h news') (hn : ∀ p ∈ news, p ∈ news') (hp : P c') (hm : μ c' < μ c) :
    WhEnd h₀ L ns news vs P μ s c { s with heap := h, toks := tk } := ⟨c', h, tk, rfl, F, fun p hp => N p (hn p hp), hp, hm⟩
theorem St.same {x : Str} {v : Value} {vs : List (Option Value)} (h : At x (some v) ns vs) : St x (some v) ns vs vs := by
  induction h with
  | here => exact .here
  | there _ ih => exact .there ih
theorem st_eq {x : Str} {v : Value} {vs vs' : List (Option Value)} (hnd : okN ns = true) (ha : At x (some v) ns vs) (h : St x (some v) ns vs vs') : posMap ns vs = posMap ns vs' := by
  rw [← h.set hnd, ← (St.same ha).set hnd]
  funext y
  by_cases e : y = x
  · simp [e]
  · simp [e]
abbrev S1 := Int × Tok
abbrev S2 := (Int × Tok) × (Int × Tok)
abbrev S3 := (Int × Tok) × (Int × Tok) × (Int × Tok)
theorem while2 {test : Expr} {body : List Stmt} {rest : List Stmt} {pos : Pos} {Q : Flow → Shared → Prop} {vs : List (Option Value)} {v1 : Int → Tok → List (Option Value)} {v2 : Int → Tok → Int → Tok → List (Option Value)} {a0 b0 : Int} {t0 u0 : Tok}
    (x y : String) (P : Int → Int → Prop) (μ : Int → Int → Nat) (R : Int → Int → Prop)
    (hnd : okN ns = true) (F : Fr h₀ L s.heap (posMap ns vs)) (N : News h₀ L s.heap news)
    (ha0 : At (Str.ofString x) (some (.int a0 t0)) ns vs) (hs0 : ∀ a t, St (Str.ofString x) (some (.int a t)) ns vs (v1 a t))
    (ha1 : At (Str.ofString y) (some (.int b0 u0)) ns (v1 a0 t0)) (hs1 : ∀ a t b u, St (Str.ofString y) (some (.int b u)) ns (v1 a t) (v2 a t b u))
    (hp : P a0 b0)
    (turn : ∀ a t b u h tk, P a b → Fr h₀ L h (posMap ns (v2 a t b u)) → News h₀ L h news →
      wpAny (model prog wd) A (isTrue test env (eval test env)) (fun b' s₂ => if b' = true then wpAny (model prog wd) A (execs body env) (WhPost h₀ L ns news (fun c : S2 => v2 c.1.1 c.1.2 c.2.1 c.2.2) (fun c : S2 => P c.1.1 c.2.1) (fun c : S2 => μ c.1.1 c.2.1) (fun _ _ => False) s ((a, t), (b, u))) (fun _ _ => False) s₂ else WhExit h₀ L ns news (fun c : S2 => v2 c.1.1 c.1.2 c.2.1 c.2.2) (fun c : S2 => R c.1.1 c.2.1) s ((a, t), (b, u)) s₂) (fun _ _ => False) { s with heap := h, toks := tk })
    (hk : ∀ a t b u h tk, R a b → Fr h₀ L h (posMap ns (v2 a t b u)) → News h₀ L h news → wpAny (model prog wd) A (execs rest env) Q E { s with heap := h, toks := tk }) :
    wpAny (model prog wd) A (execs (.While test body [] pos :: rest) env) Q E s := by
  refine wpAny_execs_cons (whileG (σ := S2) (ns := ns) (fun c : S2 => v2 c.1.1 c.1.2 c.2.1 c.2.2) (fun c => P c.1.1 c.2.1) (fun c => μ c.1.1 c.2.1) ((a0, t0), (b0, u0)) ?_ N hp ?_)
  · show Fr h₀ L s.heap (posMap ns (v2 a0 t0 b0 u0))
    rw [← st_eq hnd ha1 (hs1 a0 t0 b0 u0), ← st_eq hnd ha0 (hs0 a0 t0)]
    exact F
  · rintro ⟨⟨a, t⟩, ⟨b, u⟩⟩ h tk hc F' N'
    refine wpAny_mono (turn a t b u h tk hc F' N') (fun b' s₂ p => ?_) fun _ _ x => x
    cases b' with
    | true =>
      simp only [if_true] at p ⊢
      refine wpAny_mono p (fun f s₃ q => ?_) fun _ _ x => x
      cases f <;> first | exact q.elim | exact q
    | false =>
      simp only [Bool.false_eq_true, if_false] at p ⊢
      obtain ⟨h2, tk2, rfl, F2, N2, hr⟩ := p
      exact hk a t b u h2 tk2 hr F2 N2
theorem while3 {test : Expr} {body : List Stmt} {rest : List Stmt} {pos : Pos} {Q : Flow → Shared → Prop} {vs : List (Option Value)} {v1 : Int → Tok → List (Option Value)} {v2 : Int → Tok → Int → Tok → List (Option Value)} {v3 : Int → Tok → Int → Tok → Int → Tok → List (Option Value)} {a0 b0 d0 : Int} {t0 u0 w0 : Tok}
    (x y z : String) (P : Int → Int → Int → Prop) (μ : Int → Int → Int → Nat) (R : Int → Int → Int → Prop)
    (hnd : okN ns = true) (F : Fr h₀ L s.heap (posMap ns vs)) (N : News h₀ L s.heap news)
    (ha0 : At (Str.ofString x) (some (.int a0 t0)) ns vs) (hs0 : ∀ a t, St (Str.ofString x) (some (.int a t)) ns vs (v1 a t))
    (ha1 : At (Str.ofString y) (some (.int b0 u0)) ns (v1 a0 t0)) (hs1 : ∀ a t b u, St (Str.ofString y) (some (.int b u)) ns (v1 a t) (v2 a t b u))
    (ha2 : At (Str.ofString z) (some (.int d0 w0)) ns (v2 a0 t0 b0 u0)) (hs2 : ∀ a t b u d w, St (Str.ofString z) (some (.int d w)) ns (v2 a t b u) (v3 a t b u d w))
    (hp : P a0 b0 d0)
    (turn : ∀ a t b u d w h tk, P a b d → Fr h₀ L h (posMap ns (v3 a t b u d w)) → News h₀ L h news →
      wpAny (model prog wd) A (isTrue test env (eval test env)) (fun b' s₂ => if b' = true then wpAny (model prog wd) A (execs body env) (WhPost h₀ L ns news (fun c : S3 => v3 c.1.1 c.1.2 c.2.1.1 c.2.1.2 c.2.2.1 c.2.2.2) (fun c : S3 => P c.1.1 c.2.1.1 c.2.2.1) (fun c : S3 => μ c.1.1 c.2.1.1 c.2.2.1) (fun _ _ => False) s ((a, t), (b, u), (d, w))) (fun _ _ => False) s₂ else WhExit h₀ L ns news (fun c : S3 => v3 c.1.1 c.1.2 c.2.1.1 c.2.1.2 c.2.2.1 c.2.2.2) (fun c : S3 => R c.1.1 c.2.1.1 c.2.2.1) s ((a, t), (b, u), (d, w)) s₂) (fun _ _ => False) { s with heap := h, toks := tk })
    (hk : ∀ a t b u d w h tk, R a b d → Fr h₀ L h (posMap ns (v3 a t b u d w)) → News h₀ L h news → wpAny (model prog wd) A (execs rest env) Q E { s with heap := h, toks := tk }) :
    wpAny (model prog wd) A (execs (.While test body [] pos :: rest) env) Q E s := by
  refine wpAny_execs_cons (whileG (σ := S3) (ns := ns) (fun c : S3 => v3 c.1.1 c.1.2 c.2.1.1 c.2.1.2 c.2.2.1 c.2.2.2) (fun c => P c.1.1 c.2.1.1 c.2.2.1) (fun c => μ c.1.1 c.2.1.1 c.2.2.1) ((a0, t0), (b0, u0), (d0, w0)) ?_ N hp ?_)
  · show Fr h₀ L s.heap (posMap ns (v3 a0 t0 b0 u0 d0 w0))
    rw [← st_eq hnd ha2 (hs2 a0 t0 b0 u0 d0 w0), ← st_eq hnd ha1 (hs1 a0 t0 b0 u0), ← st_eq hnd ha0 (hs0 a0 t0)]
    exact F
  · rintro ⟨⟨a, t⟩, ⟨b, u⟩, ⟨d, w⟩⟩ h tk hc F' N'
    refine wpAny_mono (turn a t b u d w h tk hc F' N') (fun b' s₂ p => ?_) fun _ _ x => x
    cases b' with
    | true =>
      simp only [if_true] at p ⊢
      refine wpAny_mono p (fun f s₃ q => ?_) fun _ _ x => x
      cases f <;> first | exact q.elim | exact q
    | false =>
      simp only [Bool.false_eq_true, if_false] at p ⊢
      obtain ⟨h2, tk2, rfl, F2, N2, hr⟩ := p
      exact hk a t b u d w h2 tk2 hr F2 N2
end
local macro_rules | `(tactic| walk_at "WhPost") => `(tactic| (dsimp only [WhPost]))
local macro_rules | `(tactic| walk_at "WhEnd") => `(tactic| (k_here; k_dflt (first
  | (refine' whEnd (σ := S2) ((_, _), (_, _)) ?zwf ?zwn ?zwm ?zwp ?zwl; (case zwf => k_asm); (case zwn => k_asm); (case zwm => first | exact fun _ h => h | exact fun _ h => .tail _ h | exact fun _ h => .tail _ (.tail _ h) | exact fun _ h => .tail _ (.tail _ (.tail _ h))); (case zwp => ((try dsimp only); k_extra "inv")); (case zwl => ((try dsimp only); k_extra "meas")))
  | (refine' whEnd (σ := S3) ((_, _), (_, _), (_, _)) ?zvf ?zvn ?zvm ?zvp ?zvl; (case zvf => k_asm); (case zvn => k_asm); (case zvm => first | exact fun _ h => h | exact fun _ h => .tail _ h | exact fun _ h => .tail _ (.tail _ h) | exact fun _ h => .tail _ (.tail _ (.tail _ h))); (case zvp => ((try dsimp only); k_extra "inv")); (case zvl => ((try dsimp only); k_extra "meas")))))) 
local macro_rules | `(tactic| walk_at "execs cons While cons") => `(tactic| (k_here; k_extra "while"))
local macro_rules | `(tactic| walk_at "execs cons While nil") => `(tactic| (k_here; k_extra "while"))
local macro_rules | `(tactic| walk_at "WhExit") => `(tactic| (k_here; k_dflt (refine' whExit ?zxf ?zxn ?zxm ?zxr; (case zxf => k_asm); (case zxn => k_asm); (case zxm => first | exact fun _ h => h | exact fun _ h => .tail _ h | exact fun _ h => .tail _ (.tail _ h) | exact fun _ h => .tail _ (.tail _ (.tail _ h))); (case zxr => ((try dsimp only); k_extra "exit")))))
section
variable {prog : Program} {wd : World} {A : Around} {E : Value → Shared → Prop} {s : Shared} {h₀ : Heap} {L : Addr} {m : Str → Option Value} {news : List (Addr × Obj)} {a b : Int} {t u : Tok} {Q : Value → Shared → Prop}
theorem divmod_lit (F : Fr h₀ L s.heap m) (N : News h₀ L s.heap news) (hb : 0 < b ∧ b < 1073741824)
    (h : ∀ D h', Fr h₀ L h' m → News h₀ L h' ((D, tup2 (a / b) (a % b) s.toks (s.toks + 1) 0) :: news) → (∀ p ∈ news, p.1 < D) → Q (.ref D) { s with heap := h', toks := s.toks + 1 + 1 }) :
    wpAny (model prog wd) A (call (.builtin "divmod") [.int a t, .int b u]) Q E s := by
  refine divmod_int (by omega) ?_ (.inl (PyProof.noPylong_small (by omega)))
  rw [Int.fdiv_eq_ediv_of_nonneg a (by omega), Int.fmod_eq_emod_of_nonneg a (by omega)]
  exact h _ _ (F.push _) (N.push F _) (fun p hp => Heap.lt_size (N _ hp).1)
end
local macro_rules | `(tactic| walk_at "call builtin:divmod") => `(tactic| (k_here; (with_reducible show wpAny _ _ (call (Value.builtin _) [Value.int _ _, Value.int _ _]) _ _ _); k_dflt (refine' divmod_lit ?zdf ?zdn ?zdb ?_; (case zdf => k_asm); (case zdn => k_asm); (case zdb => first | decide | omega)); intro D9 h9 F9 N9 l9; (try k_sweep); (try dsimp only)))

-- A0s
section
variable {prog : Program} {wd : World} {A : Around} {E : Value → Shared → Prop} {s : Shared} {h₀ : Heap} {L D : Addr} {news : List (Addr × Obj)} {o : Obj} {zs : List Int}
def SeqI (o : Obj) (zs : List Int) : Prop := (o.cls = .type "tuple" ∨ o.cls = .type "list") ∧ ∃ vs k, o.data = .seq (List.toArray vs) k ∧ IntsAre vs zs
theorem seq_tup {vs : List Value} {zs : List Int} {k : Nat} (h : IntsAre vs zs) : SeqI { cls := .type "tuple", data := .seq vs.toArray k } zs := ⟨.inl rfl, vs, k, rfl, h⟩
theorem seq_lst {vs : List Value} {zs : List Int} {k : Nat} (h : IntsAre vs zs) : SeqI { cls := .type "list", data := .seq vs.toArray k } zs := ⟨.inr rfl, vs, k, rfl, h⟩
theorem ints_at {vs : List Value} {zs : List Int} (hi : IntsAre vs zs) {k : Nat} (h : k < zs.length) : ∃ t, vs[k]? = some (.int (zs.getD k 0) t) := by
  obtain ⟨t, ht⟩ := hi.get k (zs.getD k 0) (by rw [List.getD_eq_getElem?_getD, List.getElem?_eq_getElem h]; rfl)
  exact ⟨t, ht⟩
theorem sub_seqI {value slice : Expr} {k : Int} {u : Tok} {Q : Value → Shared → Prop} (N : News h₀ L s.heap news) (hm : (D, o) ∈ news) (ho : SeqI o zs) (hk : 0 ≤ k ∧ k < zs.length ∧ k < 2 ^ 62) (h : ∀ t, Q (.int (zs.getD k.toNat 0) t) s)
    (hs : subscripted slice false (.ref D) (.int k u) = operate [.ref D, .int k u] (getItem (.ref D) (.int k u)) := by with_unfolding_all rfl) :
    wpAny (model prog wd) A (subscriptTail value slice (.ref D) (.int k u)) Q E s := by
  obtain ⟨hc, vs, c, hd, hi⟩ := ho
  obtain ⟨t, ht⟩ := ints_at hi (k := k.toNat) (by omega)
  have hg := N.get hm
  have hl := hi.length
  rcases hc with hc | hc
  · have T : IsTup s.heap D vs.toArray := ⟨o, hg, hc, c, hd⟩
    refine item_tupleT (j := k.toNat) T (by omega) (by omega) ?_ ht (h t) hs
    unfold seqIndex?
    have h1 : ¬ k < 0 := by omega
    have h2 : k < (vs.length : Int) := by omega
    simp [h1, h2, hk.1]
  · have T : s.heap.IsList D vs.toArray := ⟨o, hg, hc, c, hd⟩
    exact tail_any T.typeIs slot_list_getitem.lookup (wpAny_getItem_list T (by omega) (by omega) (by simpa using ht) (h t)) hs
end
section
variable {prog : Program} {wd : World} {A : Around} {E : Value → Shared → Prop} {s : Shared}
theorem adjust_upto (b n : Nat) (hb : b ≤ n) : Builtin.Slice.sliceAdjust none (some (b : Int)) 1 (n : Int) = ((0 : Int), (b : Int)) := by
  unfold Builtin.Slice.sliceAdjust
  have h1 : ¬ ((1 : Int) < 0) := by omega
  have h2 : ¬ ((b : Int) < 0) := by omega
  simp only [h1, h2, if_false]
  congr 1
  omega
theorem places_upto (b : Nat) : Builtin.Slice.slicePlaces (0 : Int) (b : Int) 1 = b := by
  unfold Builtin.Slice.slicePlaces
  have h1 : (1 : Int) > 0 := by omega
  simp only [h1, if_true, Int.ediv_one]
  split <;> omega
theorem sliceApplied_upto {sl : Addr} {b n : Nat} {u : Tok} {Q : Int × Int × Nat → Shared → Prop} (hs : s.heap.IsSliceOf sl .none (.int b u) .none) (hb : b ≤ n) (h : Q ((0 : Int), 1, b) s) :
    wpAny (model prog wd) A (Builtin.Slice.sliceApplied (.ref sl) (pure (n : Int))) Q E s := by
  obtain ⟨os, hos, hcs, hds⟩ := id hs
  unfold Builtin.Slice.sliceApplied Builtin.Slice.sliceFields
  refine wpAny_bind (wpAny_bind (wpAny_field hos hds (x := .none) rfl (wpAny_bind (wpAny_field hos hds (x := .int b u) rfl (wpAny_bind (wpAny_field hos hds (x := .none) rfl (wpAny_pure ?_)))))))
  refine wpAny_bind (slicePart_none ?_)
  show wpAny _ _ (if ((1 : Int) == 0) = true then _ else _) _ _ s
  rw [if_neg (by decide)]
  refine wpAny_bind (slicePart_none (wpAny_bind (slicePart_int (wpAny_bind (wpAny_pure ?_)))))
  show wpAny _ _ (match Builtin.Slice.sliceAdjust none (some (b : Int)) 1 (n : Int) with | (lo, hi) => pure (lo, (1 : Int), Builtin.Slice.slicePlaces lo hi 1)) _ _ s
  rw [adjust_upto b n hb]
  show wpAny _ _ (pure ((0 : Int), (1 : Int), Builtin.Slice.slicePlaces (0 : Int) (b : Int) 1)) _ _ s
  rw [places_upto b]
  exact wpAny_pure h
theorem pick_upto (xs : Array Value) (b : Nat) (_hb : b ≤ xs.size) : ((List.range b).filterMap fun (k : Nat) => xs[((0 : Int) + (k : Int) * 1).toNat]?).toArray = (xs.toList.take b).toArray := by
  have e : (fun (k : Nat) => xs[((0 : Int) + (k : Int) * 1).toNat]?) = fun k => xs[0 + k]? := by
    funext k
    have : ((0 : Int) + (k : Int) * 1).toNat = 0 + k := by omega
    rw [this]
  rw [e]
  have := pick_run xs 0 b
  rw [List.filterMap_map] at this
  have e2 : ((fun x => xs[x]?) ∘ fun x => 0 + x) = fun k => xs[0 + k]? := rfl
  rw [e2] at this
  rw [this, List.drop_zero]
theorem getItem_tuple_upto {t sl : Addr} {items : Array Value} {b : Nat} {u : Tok} {Q : Value → Shared → Prop} (ht : IsTup s.heap t items) (hs : s.heap.IsSliceOf sl .none (.int b u) .none) (hb : b < items.size)
    (h : Q (.ref s.heap.objs.size) { s with heap := s.heap.push { cls := .type "tuple", data := .seq (items.toList.take b).toArray } })
    (hsz : items.size ≤ sizeLine) : wpAny (model prog wd) A (getItem (.ref t) (.ref sl)) Q E s := by
  have hdrop : sizeOk (.seq (items.toList.take b).toArray) := by
    show (items.toList.take b).toArray.size ≤ sizeLine
    rw [List.size_toArray, List.length_take, Array.length_toList]
    omega
  obtain ⟨os, hos, hcs, hds⟩ := id hs
  have hTs : s.TypeIs (.ref sl) "slice" := ⟨os, hos, hcs⟩
  unfold getItem
  try with_reducible refine wpAny_holding ?_
  first | refine wpAny_bind (wpAny_pure ?_) | skip
  refine wpAny_bind (wpAny_sequenceKey ht.typeIs (by decide) ?_)
  refine wpAny_bind (wpAny_callSpecial?_slot (name := Str.ofString "__getitem__") ht.typeIs slot_tuple_getitem
    (wpAny_call_entry slot_tuple_getitem ht.typeIs entry_tuple_getitem ?_ (args_tuple_getitem _ _)))
  show wpAny _ _ (Builtin.Tuple.tupleItemsOf (.ref t) >>= _) _ _ s
  refine wpAny_bind (tupleItemsOf_ ht ?_)
  refine wpAny_bind (wpAny_typeOf hTs ?_)
  rw [if_pos (by decide)]
  refine wpAny_bind (sliceApplied_upto hs (Nat.le_of_lt hb) ?_)
  have hno : ¬ (((0 : Int) == 0 && (1 : Int) == 1 && b == items.size) = true) := by
    have : (b == items.size) = false := by rw [beq_eq_false_iff_ne]; omega
    rw [this]; simp
  show wpAny _ _ (if ((0 : Int) == 0 && (1 : Int) == 1 && b == items.size) = true then _ else _) _ _ s
  rw [if_neg hno, pick_upto items b (Nat.le_of_lt hb)]
  first
    | exact wpAny_bind (m := Builtin.Tuple.tupleExact _) (wpAny_newObj_type (wpAny_pure ⟨_, rfl, wpAny_pure h⟩) hdrop)
    | exact wpAny_bind (m := Builtin.Tuple.tupleExact _) (wpAny_newObj_type (wpAny_bind (wpAny_pure (wpAny_pure ⟨_, rfl, wpAny_pure h⟩))) hdrop)
    | exact wpAny_bind (wpAny_bind (m := Builtin.Tuple.tupleExact _) (wpAny_newObj_type (wpAny_pure (wpAny_pure ⟨_, rfl, wpAny_pure h⟩)) hdrop))
    | exact wpAny_bind (wpAny_bind (m := Builtin.Tuple.tupleExact _) (wpAny_newObj_type (wpAny_pure ⟨_, rfl, wpAny_pure h⟩) hdrop))
end
section
variable {prog : Program} {wd : World} {A : Around} {E : Value → Shared → Prop} {s : Shared} {h₀ : Heap} {L : Addr} {m : Str → Option Value} {news : List (Addr × Obj)} {zs xs ys : List Int}
def TupAt (h : Heap) (a : Addr) (zs : List Int) : Prop := ∃ vs, IsTup h a (List.toArray vs) ∧ IntsAre vs zs
theorem tupAt_led {h : Heap} {a : Addr} {vs : List Value} {k : Nat} (N : News h₀ L h news) (hm : (a, ({ cls := .type "tuple", data := .seq vs.toArray k } : Obj)) ∈ news) (hi : IntsAre vs zs) : TupAt h a zs := ⟨vs, News.isTup N hm, hi⟩
theorem tupAt_top {K : Frag} {h : Heap} {a : Addr} {l : List Value} {dd : Option Addr} {n : Nat} {sl : Array (Option Value)} (F : Fr h₀ L h m) (X : K.In h₀) (hl : K.lookup a = some ⟨.type "tuple", dd, .seq l.toArray n, sl⟩) (hi : IntsAre l zs) : TupAt h a zs := ⟨l, tupK (X.keeps F.keep) hl, hi⟩
theorem slice_from {value slice : Expr} {t : Addr} {a : Nat} {u : Tok} {Q : Value → Shared → Prop} (F : Fr h₀ L s.heap m) (N : News h₀ L s.heap news) (ht : TupAt s.heap t zs) (h1 : 1 ≤ a ∧ a ≤ zs.length ∧ zs.length ≤ 1000)
    (h : ∀ D vs h', Fr h₀ L h' m → News h₀ L h' ((D, { cls := .type "tuple", data := .seq (List.toArray vs) 0 }) :: news) → IntsAre vs (zs.drop a) → (∀ p ∈ news, p.1 < D) → Q (.ref D) { s with heap := h' })
    (hs : subscripted slice false (.ref t) (.ref s.heap.objs.size) = operate [.ref s.heap.objs.size, .ref t] (getItem (.ref t) (.ref s.heap.objs.size)) := by with_unfolding_all rfl)
    (hg : ∀ r, letTemporaryGo value (.ref t) r = pure () := by intro _; with_unfolding_all rfl) :
    wpAny (model prog wd) A (subscriptTail value slice (.ref t) (.ref s.heap.objs.size)) Q E { s with heap := s.heap.push { cls := .type "slice", data := .fields #[.int a u, .none, .none] } } := by
  obtain ⟨vs, ht, hi⟩ := ht
  have hl := hi.length
  refine slice_tuple_from F N ht h1.1 (by rw [List.size_toArray]; omega) (fun h' F' N' => h _ _ h' F' N' ?_ fun p hp => Nat.lt_succ_of_lt (Heap.lt_size (N p hp).1)) hs hg (by rw [List.size_toArray, sizeLine_eq]; omega)
  show IntsAre (vs.drop a) _
  exact hi.drop a
theorem slice_upto {value slice : Expr} {t : Addr} {b : Int} {u : Tok} {Q : Value → Shared → Prop} (F : Fr h₀ L s.heap m) (N : News h₀ L s.heap news) (ht : TupAt s.heap t zs) (h1 : 0 ≤ b ∧ b < zs.length ∧ zs.length ≤ 1000)
    (h : ∀ D vs h', Fr h₀ L h' m → News h₀ L h' ((D, { cls := .type "tuple", data := .seq (List.toArray vs) 0 }) :: news) → IntsAre vs (zs.take b.toNat) → (∀ p ∈ news, p.1 < D) → Q (.ref D) { s with heap := h' })
    (hs : subscripted slice false (.ref t) (.ref s.heap.objs.size) = operate [.ref s.heap.objs.size, .ref t] (getItem (.ref t) (.ref s.heap.objs.size)) := by with_unfolding_all rfl)
    (hg : ∀ r, letTemporaryGo value (.ref t) r = pure () := by intro _; with_unfolding_all rfl) :
    wpAny (model prog wd) A (subscriptTail value slice (.ref t) (.ref s.heap.objs.size)) Q E { s with heap := s.heap.push { cls := .type "slice", data := .fields #[.none, .int b u, .none] } } := by
  obtain ⟨vs, ht, hi⟩ := ht
  have hl := hi.length
  obtain ⟨b, rfl⟩ : ∃ n : Nat, b = (n : Int) := ⟨b.toNat, by omega⟩
  have ht' : IsTup (s.heap.push { cls := .type "slice", data := .fields #[.none, .int b u, .none] }) t vs.toArray := ht.keeps fun _ _ e => Heap.get?_push_of_some _ e
  refine subscriptTail_ops (s := { s with heap := s.heap.push { cls := .type "slice", data := .fields #[.none, .int b u, .none] } }) ht'.typeIs slot_tuple_getitem.lookup
    (getItem_tuple_upto ht' (Heap.IsSliceOf.new ..) (by rw [List.size_toArray]; omega) ?_ (by rw [List.size_toArray, sizeLine_eq]; omega)) hs hg
  have N1 := News.push (F.push { cls := .type "slice", data := .fields #[.none, .int b u, .none] }) (N.grown fun _ _ e => Heap.get?_push_of_some _ e) { cls := .type "tuple", data := .seq (vs.toArray.toList.take b).toArray }
  rw [Heap.size_push] at N1
  show Q (.ref (s.heap.push _).objs.size) _
  rw [Heap.size_push]
  exact h _ _ _ ((F.push _).push _) N1 (hi.take b) fun p hp => Nat.lt_succ_of_lt (Heap.lt_size (N p hp).1)
theorem add_tups {t b : Addr} {Q : Value → Shared → Prop} (F : Fr h₀ L s.heap m) (N : News h₀ L s.heap news) (ht : TupAt s.heap t xs) (hb : TupAt s.heap b ys) (h0 : xs ≠ [] ∧ ys ≠ [] ∧ xs.length + ys.length ≤ 1000)
    (h : ∀ D vs h', Fr h₀ L h' m → News h₀ L h' ((D, { cls := .type "tuple", data := .seq (List.toArray vs) 0 }) :: news) → IntsAre vs (xs ++ ys) → (∀ p ∈ news, p.1 < D) → Q (.ref D) { s with heap := h' }) :
    wpAny (model prog wd) A (binaryOp .Add (.ref t) (.ref b)) Q E s := by
  obtain ⟨vs, ht, hi⟩ := ht
  obtain ⟨ws, hb, hj⟩ := hb
  have hl := hi.length
  have hl2 := hj.length
  refine add_tuples F N ht hb (fun e => absurd (by subst e; cases hi; rfl) h0.1) (fun _ e => absurd (by subst e; cases hj; rfl) h0.2.1) (fun _ _ h' F' N' => h _ _ h' F' N' (hi.append hj) fun p hp => Heap.lt_size (N p hp).1) (by rw [sizeLine_eq]; omega)
end
local macro_rules | `(tactic| walk_at "subscriptTail Name Slice ref ref") => `(tactic| (k_here; (with_reducible show wpAny _ _ (subscriptTail _ (PySem.Expr.Slice (some _) none none _) (Value.ref _) (Value.ref _)) _ _ _); k_dflt (refine' slice_from ?zsF ?zsN ?zsT ?zsL ?_ ?zsS ?zsG; (case zsF => k_asm); (case zsN => k_asm); (case zsT => first | exact tupAt_led (by k_asm) (by k_mem) (by first | assumption | (repeat constructor)) | exact tupAt_top (by k_asm) (by k_asm) (by k_is) (by repeat constructor)); (case zsL => (simp; try omega)); (case zsS => with_unfolding_all rfl); (case zsG => (intro _; with_unfolding_all rfl))); intro D9 vs9 h9 F9 N9 i9 l9; (try k_sweep); (try dsimp only)))
local macro_rules | `(tactic| walk_at "subscriptTail Name Slice ref ref") => `(tactic| (k_here; (with_reducible show wpAny _ _ (subscriptTail _ (PySem.Expr.Slice none (some _) none _) (Value.ref _) (Value.ref _)) _ _ _); k_dflt (refine' slice_upto ?ztF ?ztN ?ztT ?ztL ?_ ?ztS ?ztG; (case ztF => k_asm); (case ztN => k_asm); (case ztT => first | exact tupAt_led (by k_asm) (by k_mem) (by first | assumption | (repeat constructor)) | exact tupAt_top (by k_asm) (by k_asm) (by k_is) (by repeat constructor)); (case ztL => first | k_extra "upto" | (simp; omega)); (case ztS => with_unfolding_all rfl); (case ztG => (intro _; with_unfolding_all rfl))); intro D9 vs9 h9 F9 N9 i9 l9; (try k_sweep); (try dsimp only)))
local macro_rules | `(tactic| walk_at "binaryOp Add ref ref") => `(tactic| (k_here; k_dflt (refine' add_tups ?zaF ?zaN ?zaT ?zaU ?zaL ?_; (case zaF => k_asm); (case zaN => k_asm); (case zaT => first | exact tupAt_led (by k_asm) (by k_mem) (by first | assumption | (repeat constructor)) | exact tupAt_top (by k_asm) (by k_asm) (by k_is) (by repeat constructor)); (case zaU => first | exact tupAt_led (by k_asm) (by k_mem) (by first | assumption | (repeat constructor)) | exact tupAt_top (by k_asm) (by k_asm) (by k_is) (by repeat constructor)); (case zaL => (simp))); intro D9 vs9 h9 F9 N9 i9 l9; (try k_sweep); (try dsimp only)))

-- A0f
section
variable {prog : Program} {wd : World} {A : Around} {E : Value → Shared → Prop} {s : Shared} {env : Env} {h₀ : Heap} {x : Str} {body : List Stmt} {Q : Flow → Shared → Prop} {ns : List (Str × NameKind)} {news : List (Addr × Obj)} {zs : List Int}
def ForEnd (h₀ : Heap) (L : Addr) (ns : List (Str × NameKind)) (led : List (Addr × Obj)) (v2 : Option Value → Int → Tok → List (Option Value)) (P : Int → Prop) (s s' : Shared) : Prop :=
  ∃ (h : Heap) (tk : Nat) (u : Option Value) (a : Int) (t : Tok), s' = { s with heap := h, toks := tk } ∧ Fr h₀ L h (posMap ns (v2 u a t)) ∧ News h₀ L h led ∧ P a
def ForPost (h₀ : Heap) (L : Addr) (ns : List (Str × NameKind)) (led : List (Addr × Obj)) (v2 : Option Value → Int → Tok → List (Option Value)) (P : Int → Prop) (s : Shared) (f : Flow) (s' : Shared) : Prop :=
  match f with
  | .ret _ => False
  | .brk => False
  | _ => ForEnd h₀ L ns led v2 P s s'
theorem forEnd {L : Addr} {led led' : List (Addr × Obj)} {v2 : Option Value → Int → Tok → List (Option Value)} {P : Int → Prop} {h : Heap} {tk : Nat} (u : Option Value) (a : Int) (t : Tok) (F : Fr h₀ L h (posMap ns (v2 u a t))) (N : News h₀ L h led') (hn : ∀ p ∈ led, p ∈ led') (hp : P a) :
    ForEnd h₀ L ns led v2 P s { s with heap := h, toks := tk } := ⟨h, tk, u, a, t, rfl, F, fun p hp => N p (hn p hp), hp⟩
theorem loopI {I : Addr} {fp : List Addr} {St : Nat → Heap → Prop} {v1 : Int → Tok → List (Option Value)} {v2 : Option Value → Int → Tok → List (Option Value)} {a0 : Int} {t0 : Tok} {u0 : Option Value} (P : Nat → Int → Prop)
    (hnd : okN ns = true) (W : Walks prog wd A I fp [I] zs.length (fun i v => ∃ t, v = .int (zs.getD i 0) t) St) (hI : ∀ p ∈ news, p.1 ≠ I) (hI0 : h₀.get? I = none) (hLf : env.locals ∉ fp) (hst : St 0 s.heap)
    (F : Fr h₀ env.locals s.heap (posMap ns (v2 u0 a0 t0))) (N : News h₀ env.locals s.heap news) (hsx : ∀ a t u, Mine.St x u ns (v1 a t) (v2 u a t)) (hp : P 0 a0)
    (turn : ∀ i n t a ta h tk own, i < zs.length → n = zs.getD i 0 → P i a → Fr h₀ env.locals h (posMap ns (v2 (some (.int n t)) a ta)) → News h₀ env.locals h (own ++ news) →
      wpAny (model prog wd) A (execs body env) (ForPost h₀ env.locals ns (own ++ news) v2 (P (i + 1)) { s with heap := h, toks := tk }) E { s with heap := h, toks := tk })
    (done : ∀ u a t h tk, P zs.length a → Fr h₀ env.locals h (posMap ns (v2 u a t)) → News h₀ env.locals h news → Q .next { s with heap := h, toks := tk }) :
    LoopAtV prog wd A h₀ env x body Q E (.ref I) s := by
  refine ⟨I, fp, [I], zs.length, _, St, _, news, fun i m nx => nx = news ∧ ∃ u a t, m = posMap ns (v2 u a t) ∧ P i a, rfl, W, hLf, fun b hb => by rw [List.mem_singleton.mp hb]; exact hI0, fun p hp hm => hI p hp (List.mem_singleton.mp hm), hst, F, N, ⟨rfl, u0, a0, t0, rfl, hp⟩, ?_, ?_⟩
  · rintro i v m₁ news₁ s₁ own ⟨h, tk, rfl⟩ hin ⟨t, rfl⟩ ⟨rfl, u, a, ta, rfl, hp⟩ hoff _ _ _ _ F₁ N₁
    have e : (fun y => if y = x then some (Value.int (zs.getD i 0) t) else posMap ns (v2 u a ta) y) = posMap ns (v2 (some (.int (zs.getD i 0) t)) a ta) := by
      rw [← (hsx a ta u).set hnd, ← (hsx a ta (some (.int (zs.getD i 0) t))).set hnd]
      funext y
      by_cases hy : y = x
      · simp [hy]
      · simp [hy]
    rw [e] at F₁
    refine wpAny_mono (turn i _ t a ta h tk own hin rfl hp F₁ N₁) (fun f s₂ p => ?_) fun _ _ e => e
    cases f with
    | ret v => exact p.elim
    | brk => exact p.elim
    | next =>
      obtain ⟨h', tk', u', a', t', rfl, F', N', hp'⟩ := p
      exact ⟨rfl, h', tk', _, news₁, rfl, F', N', hoff, rfl, u', a', t', rfl, hp'⟩
    | cont =>
      obtain ⟨h', tk', u', a', t', rfl, F', N', hp'⟩ := p
      exact ⟨rfl, h', tk', _, news₁, rfl, F', N', hoff, rfl, u', a', t', rfl, hp'⟩
  · rintro h tk m' nx F' N' _ ⟨rfl, u, a, t, rfl, hp⟩
    exact done u a t h tk hp F' N'
theorem forStart {vs : List (Option Value)} {v1 : Int → Tok → List (Option Value)} {v2 : Option Value → Int → Tok → List (Option Value)} {a0 : Int} {t0 : Tok} {u0 : Option Value} {y : Str} {h : Heap} {L : Addr} (hnd : okN ns = true) (F : Fr h₀ L h (posMap ns vs))
    (ha : At y (some (.int a0 t0)) ns vs) (hs1 : ∀ a t, Mine.St y (some (.int a t)) ns vs (v1 a t)) (hu : At x u0 ns (v1 a0 t0)) (hsx : ∀ a t u, Mine.St x u ns (v1 a t) (v2 u a t)) : Fr h₀ L h (posMap ns (v2 u0 a0 t0)) := by
  have e1 := st_eq hnd ha (hs1 a0 t0)
  have e2 : posMap ns (v1 a0 t0) = posMap ns (v2 u0 a0 t0) := by
    rw [← (hsx a0 t0 u0).set hnd]
    funext z
    by_cases hz : z = x
    · subst hz; rw [if_pos rfl, hu.get hnd]
    · rw [if_neg hz]
  rw [← e2, ← e1]
  exact F
end
section
theorem walks_mono {prog : Program} {wd : World} {A : Around} {I : Addr} {fp wr : List Addr} {n : Nat} {P P' : Nat → Value → Prop} {St : Nat → Heap → Prop} (W : Walks prog wd A I fp wr n P St) (h : ∀ i v, i < n → P i v → P' i v) : Walks prog wd A I fp wr n P' St where
  sub := W.sub
  frame := W.frame
  item := fun i s Q E hi st hQ => W.item i s Q E hi st fun v h' tk hp st' hk => hQ v h' tk (h i v hi hp) st' hk
  done := W.done
  self := W.self
variable {prog : Program} {wd : World} {A : Around} {E : Value → Shared → Prop} {s : Shared} {env : Env} {h₀ : Heap} {x : Str} {body : List Stmt} {Q : Flow → Shared → Prop} {ns : List (Str × NameKind)} {news : List (Addr × Obj)} {zs : List Int}
theorem iterTup {D : Addr} {vs9 : List Value} {c : Nat} {vs : List (Option Value)} {v1 : Int → Tok → List (Option Value)} {v2 : Option Value → Int → Tok → List (Option Value)} {a0 : Int} {t0 : Tok} {u0 : Option Value} (y : String) (P : Nat → Int → Prop)
    (hnd : okN ns = true) (F : Fr h₀ env.locals s.heap (posMap ns vs)) (N : News h₀ env.locals s.heap news) (hm : (D, ({ cls := .type "tuple", data := .seq vs9.toArray c } : Obj)) ∈ news) (hi : IntsAre vs9 zs)
    (ha : At (Str.ofString y) (some (.int a0 t0)) ns vs) (hs1 : ∀ a t, Mine.St (Str.ofString y) (some (.int a t)) ns vs (v1 a t)) (hu : At x u0 ns (v1 a0 t0)) (hsx : ∀ a t u, Mine.St x u ns (v1 a t) (v2 u a t)) (hh : A.handled = none) (hp : P 0 a0)
    (turn : ∀ i n t a ta h tk own, i < zs.length → n = zs.getD i 0 → P i a → Fr h₀ env.locals h (posMap ns (v2 (some (.int n t)) a ta)) → News h₀ env.locals h (own ++ news) →
      wpAny (model prog wd) A (execs body env) (ForPost h₀ env.locals ns (own ++ news) v2 (P (i + 1)) { s with heap := h, toks := tk }) E { s with heap := h, toks := tk })
    (done : ∀ u a t h tk, P zs.length a → Fr h₀ env.locals h (posMap ns (v2 u a t)) → News h₀ env.locals h news → Q .next { s with heap := h, toks := tk }) :
    wpAny (model prog wd) A (pyIter (.ref D)) (fun it s₂ => LoopAtV prog wd A h₀ env x body Q E it s₂) E s := by
  have ht : s.heap.IsTuple D vs9.toArray := News.isTup N hm
  have hD := Heap.lt_size (N _ hm).1
  have hne : D ≠ s.heap.objs.size := Nat.ne_of_lt hD
  have hDL : D ≠ env.locals := (N _ hm).2.1
  have hl := hi.length
  refine wpAny_pyIter_tuple ht ?_
  have W := Walks.tuple (prog := prog) (w := wd) hh s.heap.objs.size D hne vs9.toArray
  have W2 := walks_mono (P' := fun i v => ∃ t, v = .int (zs.getD i 0) t) W fun i v _ hv => by
    have hv' : vs9[i]? = some v := by simpa using hv
    have hlt : i < zs.length := by
      rw [← hl]
      exact (List.getElem?_eq_some_iff.mp hv').1
    obtain ⟨t, e⟩ := ints_at hi hlt
    rw [e] at hv'
    exact ⟨t, (Option.some.inj hv').symm⟩
  have hsz : vs9.toArray.size = zs.length := by rw [List.size_toArray, hl]
  rw [hsz] at W2
  have FS := forStart hnd F ha hs1 hu hsx
  refine loopI (s := { s with heap := s.heap.push { cls := .type "tuple_iterator", data := .fields #[.ref D, .int 0 0] } }) P hnd W2 (fun p hp e => ?_) ?_ ?_ ⟨⟨_, Heap.get?_push_size _ rfl, rfl, rfl⟩, ht.at fun o e => Heap.get?_push_of_some _ e⟩ (FS.push _) (fun p hp => ⟨Heap.get?_push_of_some _ (N p hp).1, (N p hp).2⟩) hsx hp turn done
  · exact absurd (Heap.lt_size (N p hp).1) (e ▸ Nat.lt_irrefl _)
  · exact Heap.get?_none_of_le (Nat.le_of_lt (Nat.lt_of_le_of_lt F.above F.ns.lt))
  · intro hm'
    rcases List.mem_cons.mp hm' with e | hm'
    · exact absurd F.ns.lt (e ▸ Nat.lt_irrefl _)
    · exact hDL (List.mem_singleton.mp hm').symm
theorem iterRange {D : Addr} {a b : Int} {t u w9 : Tok} {vs : List (Option Value)} {v1 : Int → Tok → List (Option Value)} {v2 : Option Value → Int → Tok → List (Option Value)} {a0 : Int} {t0 : Tok} {u0 : Option Value} (y : String) (P : Nat → Int → Prop)
    (hnd : okN ns = true) (F : Fr h₀ env.locals s.heap (posMap ns vs)) (N : News h₀ env.locals s.heap news) (hr : IsRange s.heap D a b 1 t u w9) (hb : -1000 ≤ a ∧ a ≤ 1000 ∧ -1000 ≤ b ∧ b ≤ 1000)
    (ha : At (Str.ofString y) (some (.int a0 t0)) ns vs) (hs1 : ∀ a t, Mine.St (Str.ofString y) (some (.int a t)) ns vs (v1 a t)) (hu : At x u0 ns (v1 a0 t0)) (hsx : ∀ a t u, Mine.St x u ns (v1 a t) (v2 u a t)) (hh : A.handled = none) (hp : P 0 a0)
    (turn : ∀ (i : Nat) (n : Int) t c ta h tk own, (i : Int) < b - a → n = a + (i : Int) → P i c → Fr h₀ env.locals h (posMap ns (v2 (some (.int n t)) c ta)) → News h₀ env.locals h (own ++ news) →
      wpAny (model prog wd) A (execs body env) (ForPost h₀ env.locals ns (own ++ news) v2 (P (i + 1)) { s with heap := h, toks := tk }) E { s with heap := h, toks := tk })
    (done : ∀ u c t h tk, P (b - a).toNat c → Fr h₀ env.locals h (posMap ns (v2 u c t)) → News h₀ env.locals h news → Q .next { s with heap := h, toks := tk }) :
    wpAny (model prog wd) A (pyIter (.ref D)) (fun it s₂ => LoopAtV prog wd A h₀ env x body Q E it s₂) E s := by
  refine wpAny_pyIter_range hr (small_one (by omega) (by omega) (by omega) (by omega)) ?_
  let zs : List Int := (List.range (b - a).toNat).map fun i : Nat => a + (i : Int)
  have hzl : zs.length = (b - a).toNat := by simp [zs]
  have hz : ∀ i, i < zs.length → zs.getD i 0 = a + (i : Int) := fun i hi => by
    rw [List.getD_eq_getElem?_getD, List.getElem?_eq_getElem hi]
    simp [zs]
  have W := Walks.range (prog := prog) (w := wd) hh s.heap.objs.size a 1 zs.length
  have W2 := walks_mono (P' := fun i v => ∃ t, v = .int (zs.getD i 0) t) W fun i v hi hv => by
    obtain ⟨t, e⟩ := hv
    refine ⟨t, ?_⟩
    rw [e, hz i hi, Int.mul_one]
  have FS := forStart hnd F ha hs1 hu hsx
  refine loopI (s := { s with heap := s.heap.push { cls := .type "range_iterator", data := .fields #[rawInt a, rawInt (Builtin.Range.rangeSize a b 1), rawInt 1] } }) P hnd W2 (fun p hp e => ?_) ?_ ?_ ?_ (FS.push _) (fun p hp => ⟨Heap.get?_push_of_some _ (N p hp).1, (N p hp).2⟩) hsx hp (fun i n t c ta h tk own hi hn hP F' N' => turn i n t c ta h tk own (by omega) (hn.trans (hz i hi)) hP F' N') (fun u c t h tk hP F' N' => done u c t h tk (by rw [← hzl]; exact hP) F' N')
  · exact absurd (Heap.lt_size (N p hp).1) (e ▸ Nat.lt_irrefl _)
  · exact Heap.get?_none_of_le (Nat.le_of_lt (Nat.lt_of_le_of_lt F.above F.ns.lt))
  · intro hm'
    have e := List.mem_singleton.mp hm'
    exact absurd F.ns.lt (e ▸ Nat.lt_irrefl _)
  · show (s.heap.push _).get? s.heap.objs.size = _
    rw [Heap.get?_push_size _ rfl, rangeSize_nat, hzl]
    simp
end
local macro_rules | `(tactic| walk_at "ForPost") => `(tactic| (dsimp only [ForPost]))
local macro_rules | `(tactic| walk_at "ForEnd") => `(tactic| (k_here; k_dflt (refine' forEnd _ _ _ ?zgf ?zgn ?zgm ?zgp; (case zgf => k_asm); (case zgn => k_asm); (case zgm => first | exact fun _ h => h | exact fun _ h => .tail _ h | exact fun _ h => .tail _ (.tail _ h) | exact fun _ h => .tail _ (.tail _ (.tail _ h))); (case zgp => first | exact True.intro | ((try dsimp only); k_extra "turn")))))
theorem forP {prog : Program} {wd : World} {A : Around} {E : Value → Shared → Prop} {s : Shared} {h₀ : Heap} {L a : Addr} {cn : Str} {cs : Scope} {ccd : Value} {cl : List (Str × Addr)} {ns : List (Str × NameKind)} {vs : List (Option Value)} {x : Str} {px pos : Pos} {iter : Expr} {body rest : List Stmt} {Q : Flow → Shared → Prop}
    (hnd : okN ns = true) (hcs : cs.names = ns) (hk : cs.kind = .function) (_F : Fr h₀ L s.heap (posMap ns vs)) (hx : Lk x .local ns)
    (h : wpAny (model prog wd) A (eval iter (envX cn cs L a ccd cl)) (fun xv s₁ => wpAny (model prog wd) A (pyIter xv) (fun it s₂ => LoopAtV prog wd A h₀ (envX cn cs L a ccd cl) x body (fun f s' => match f with | .next => wpAny (model prog wd) A (execs rest (envX cn cs L a ccd cl)) Q E s' | f => Q f s') (fun _ _ => False) it s₂) (fun _ _ => False) s₁) (fun _ _ => False) s)
    (hs : ∀ z, foldedSetIterable iter (envX cn cs L a ccd cl) z = pure z) :
    wpAny (model prog wd) A (execs (.For (.Name x px) iter body [] pos :: rest) (envX cn cs L a ccd cl)) Q E s := by
  subst hcs
  refine wpAny_execs_cons (wpAny_noRaise (For_invV h₀ (hx.lookup hnd).1 ?_ h hs PassesOwn.never))
  show (cs.kind == .class || (cs.kind == .module && L != mainGlobals)) = false
  rw [hk]; rfl
local macro_rules | `(tactic| walk_at "execs cons For cons") => `(tactic| (k_here; k_dflt (refine' forP ?zfn1 ?zfc1 ?zfk1 ?zff1 ?zfx1 ?_ ?zfs1; (case zfn1 => assumption); (case zfc1 => rfl); (case zfk1 => rfl); (case zff1 => k_asm); (case zfx1 => with_reducible (repeat (first | exact Lk.here | refine Lk.there ?_))); (case zfs1 => (intro _; with_unfolding_all rfl))); (try k_fold)))
local macro_rules | `(tactic| walk_at "pyIter ref") => `(tactic| (k_here; k_extra "pyIter ref"))
theorem forQ {prog : Program} {wd : World} {A : Around} {E : Value → Shared → Prop} {s : Shared} {h₀ : Heap} {L a : Addr} {cn : Str} {cs : Scope} {ccd : Value} {cl : List (Str × Addr)} {ns : List (Str × NameKind)} {vs : List (Option Value)} {x : Str} {px pos : Pos} {iter : Expr} {body : List Stmt} {Q : Flow → Shared → Prop}
    (hnd : okN ns = true) (hcs : cs.names = ns) (hk : cs.kind = .function) (_F : Fr h₀ L s.heap (posMap ns vs)) (hx : Lk x .local ns)
    (h : wpAny (model prog wd) A (eval iter (envX cn cs L a ccd cl)) (fun xv s₁ => wpAny (model prog wd) A (pyIter xv) (fun it s₂ => LoopAtV prog wd A h₀ (envX cn cs L a ccd cl) x body Q (fun _ _ => False) it s₂) (fun _ _ => False) s₁) (fun _ _ => False) s)
    (hs : ∀ z, foldedSetIterable iter (envX cn cs L a ccd cl) z = pure z) :
    wpAny (model prog wd) A (exec (.For (.Name x px) iter body [] pos) (envX cn cs L a ccd cl)) Q E s := by
  subst hcs
  refine wpAny_noRaise (For_invV h₀ (hx.lookup hnd).1 ?_ h hs PassesOwn.never)
  show (cs.kind == .class || (cs.kind == .module && L != mainGlobals)) = false
  rw [hk]; rfl
local macro_rules | `(tactic| walk_at "exec For Name Call cons nil") => `(tactic| (k_here; k_dflt (refine' forQ ?zfn2 ?zfc2 ?zfk2 ?zff2 ?zfx2 ?_ ?zfs2; (case zfn2 => assumption); (case zfc2 => rfl); (case zfk2 => rfl); (case zff2 => k_asm); (case zfx2 => with_reducible (repeat (first | exact Lk.here | refine Lk.there ?_))); (case zfs2 => (intro _; with_unfolding_all rfl))); (try k_fold)))

-- G0
section
def esOf (K : Frag) : List DictEntry := match K.lookup mainGlobals with | some ⟨_, _, .dict es _, _⟩ => es.toList | _ => []
def keyN (e : DictEntry) : Nat := match e.key with | .str k _ => nm k | _ => 0
theorem gl_find {x : Str} {e : DictEntry} {t : Tok} (he : e.key = .str x t) : ∀ {es : List DictEntry} {i : Nat}, ndN (es.map keyN) = true → es.all (fun e => match e.key with | .str _ _ => true | _ => false) = true → es[i]? = some e → es.find? (·.key.isStr x) = some e
  | [], _, _, _, h => by simp at h
  | a :: r, 0, _, _, h => by
    simp only [List.getElem?_cons_zero, Option.some.injEq] at h
    subst h
    rw [List.find?_cons_of_pos]
    rw [he]
    show (x == x) = true
    simp
  | a :: r, i + 1, hn, ha, h => by
    rw [List.getElem?_cons_succ] at h
    have hm : e ∈ r := List.mem_of_getElem? h
    have hne : keyN a ≠ keyN e := ndN_head hn (List.mem_map_of_mem hm)
    rw [List.all_cons, Bool.and_eq_true] at ha
    have h1 : a.key.isStr x = false := by
      have h2 := ha.1
      unfold keyN at hne
      rw [he] at hne
      cases hk : a.key with
      | str k u =>
        rw [hk] at hne
        show (k == x) = false
        simpa using nm_ne hne
      | _ => rw [hk] at h2; simp at h2
    rw [List.find?_cons_of_neg (by rw [h1]; simp)]
    exact gl_find he (ndN_tail hn) ha.2 h
theorem gl_at {K : Frag} {x : Str} {v : Value} {t : Tok} {hh : Int} (i : Nat) (hn : ndN ((esOf K).map keyN) = true ∧ (esOf K).all (fun e => match e.key with | .str _ _ => true | _ => false) = true) (h : (esOf K)[i]? = some ⟨hh, .str x t, v⟩) : nsIn K mainGlobals x = some (some v) := by
  unfold nsIn
  unfold esOf at h hn
  split at h
  · rename_i q
    rw [q]
    rw [q] at hn
    dsimp only at hn ⊢
    rw [gl_find rfl hn.1 hn.2 h]
  · simp at h
theorem gl_none {K : Frag} {x : Str} (hd : (match K.lookup mainGlobals with | some ⟨_, _, .dict _ _, _⟩ => true | _ => false) = true) (ha : (esOf K).all (fun e => match e.key with | .str _ _ => true | _ => false) = true) (hn : ((esOf K).map keyN).all (fun y => !(Nat.beq (nm x) y)) = true) : nsIn K mainGlobals x = some none := by
  unfold nsIn
  unfold esOf at ha hn
  split at hd
  · rename_i c d es n sl q
    rw [q]
    rw [q] at ha hn
    dsimp only at ha hn ⊢
    have h1 : es.toList.find? (·.key.isStr x) = none := by
      rw [List.find?_eq_none]
      intro e he hx
      have h2 := List.all_eq_true.mp ha e he
      have h3 := List.all_eq_true.mp hn _ (List.mem_map_of_mem (f := keyN) he)
      unfold keyN at h3
      cases hk : e.key with
      | str k u =>
        rw [hk] at hx h3
        have : k = x := by
          have : (k == x) = true := hx
          simpa using this
        rw [this] at h3
        simp at h3
      | _ => rw [hk] at h2; simp at h2
    have h4 : es.toList.any (·.refKey) = false := by
      rw [List.any_eq_false]
      intro e he
      have h2 := List.all_eq_true.mp ha e he
      cases hk : e.key with
      | str k u => simp [DictEntry.refKey, hk]
      | _ => rw [hk] at h2; simp at h2
    rw [h1]
    simp [h4]
  · simp at hd
end
def KEYS : List Nat := [2373929660290766140508929284557713759269861392479, 2130781878564063687801525322055021801439327, 3282875422977046685081854145246970134423464369868587894517527412831, 2946629623392483588352854076867199111576425473091456488898655, 2373929660290766149091461332207170049288577155167, 5057895015537459933653429096293517525158319500984068894034459793881761589220426387307823199, 3657490903243803399385589916505423828374195511178428227225918430583390303, 2373929660290766126776927310395876826186670604383, 2946629623392483569177425478838031043174580774940793860194399, 2946582020590190788910265444189631482715585932040409683918931, 1912555472296131850806360574845321328, 2946666647802706750477463036615967495674002315666147004317797, 1716680507717584263516116615267, 2373959488712728421236751377423437298435285844084, 1716665100819380872263219871865, 4539942090683236804978924492143631715139413567589169246384856836919655155291743453285, 4539925792654945301622968029998124808644947878186424491895658635985068429918996594809, 3657540142194233414472648772470524549149095854683657550076806246547128441, 5635147508520754404924850941920328656868819628690678946272144695070852441165027977980575648645241, 2130810564192655186108624768933348777853043, 5057776989588518984802558812934515699376175287112734329193736700196445471619387887109341294, 14902178304939515041717518106903312003534553706488545699214029949150450621453936350956054769044642281955461848012547969461262205770888403687404211404883, 13375835019225638931918440970838938996738706437493309199805791472626136888799273637619965289885255954478061315211170842304240662892404107293294675, 10776168381781900207347668908825644742617032014824832555077575933107376002374642954381546908785621382382272256434722398944739621732435, 9672428249387763714373123087109415159891493866707146637930096734536003563712304467038813789624042629809455623923102991478489171, 16602740379158194191112367291513993626856122276785664931614553522850337620213929803172581090306288103342990876846981219831383854644545340946490048939096604782, 14902218429707420969446848513896263236421582638716453042077056456487622002891371605203140488204271732191852938400866124728811150040550452513181485039726, 2644809279266951816033716957441638953219799484423798867, 10776129694673248649189071117172910794900164142567336810413728282271634631598720748615584482976277606464738414056905700472153642696814, 2946664003180952068617044013880548174318724731900631109075045, 8681987130823621112071139718167734495363352575068479234001689546300777904784178169091647833271184324889771131783150108782, 1716680507713435576526971732068, 5057990344204355455485663877924104122159342317751502396709375579900888864522215346995789934, 2130795265223353257593399312273681064525924, 6278129115202354163135268972825419592605716572076385356232017699976385502134805379375822424175025389678, 3657536859628180392784370340793870495302040283620639019307709180367077480, 10776487550506407573116994471135566124479098960812694897200118319873104245551973897537392112183678358302265059834130308429139149914222, 4074931306007465998192327353191423524866674414079796749585244839592102244450412, 5057926791815443424565392882167941410982089133343766794064526698082465604326543168392724588, 4539872824110541332079174160378796209939690366278119065804702141799409346450719572078, 10776419848153078523731837008958266415178238622836319426436791483223276132629143933710106611113914393945829989450603147268857531531372, 3657559837796797806856329901689061365417183363397406429105140511863275630, 8682049466785072441017019429382542158269399735582365772407552711883082876699763832856340089870818786223768466992760160364, 7792490000161594962774614313153140722600462498139010796166016629310234327281490715560454644805457132106698755997806, 1540839863654203949908080, 3282913725911936856828740580831693255857470737736087281294032044142, 7792748774701286039288661501131537629845469152622726776069904396305216684174617843003029639629740852983276367839342, 6278162922623039466155620211714476030506377572434966340970669503392872012614006963909382190903214538862, 4539872824110541332079174160378796217060842297133292509642348031835047863777674461294, 3657559837796797806856337022840992220590627201043296464743657838818164846, 7792797731992001200074157202671313259590956506690858524463925271321988163398081909939735160220139563585214948114542, 4074759418490055169280630363111564434665339063203171039335781526751006047141987, 4074931306007465998192327353191423524866662939830076676084621018510516236648547, 5057926791815443424565392882167941410982089133343766782590276978008964980505461582384922723, 8682049466785072441017019429382542158269399735582365772407552711883082876699763832844865840150745285599947385406752358499, 3657405555716171416590639328103067227231488027186556154798736710313771107, 3657559837796797806856337022840992220590615185521540103224783186574245987, 4539872824110541332079174160378796217060842297133292497626826275473528989125430542435, 7792797731992001200074157202671313259590956506690858524463925271321988163398081909927719638463778044710562704195683, 2946597888145062967466868783734360306912422449363761340022856, 6994626870540844367598744448492665886661715930199150714814286629939064681595995325663909747758675538046681196, 8681940378995907550725864356826999247346362642457654226307033301346443220354545431517258542026260517608328916220375531628, 14902753428557652803288805054611026013590030876696796446692925768402784700339900996095561632131563699065692826715879980446008634776857423821893904433260, 3282798817099332397991081083502437122328370210699517737682682839150, 3282937296965473674869615463114114398364466364708256489644825313390, 4074880105510524374640228415436505680812020961207932878195210697330695102070894, 6994626870540844367598730830178037091056335904012216477754413623874429288436065592996830331931375850096754798, 4539738365252792344757581655106951275433853189579876893454395910096281823628351307886, 4539738365252792344757581655106951275433823361083331914878168163761872862019532685383, 3282875423037872403876040337021803903394146014316287202554398638181, 4074902048542188930491881294519108247931744045038407179617522989463485608427630, 4539929867198589958178050212118803246136230536416431986223918973939453239879883882606, 5635096933883087304629398994737889541272077288527890680640415130124001922042665479448465922654318, 9672775495538850627406353550508242809033837478209140695428523366941485229925727283321414367367627609560010346115262118529925230, 3657405555716171416590639328103067227231496609680086533163199979035361399, 1716621961421438221102460502094, 1716614257991005512041902440530, 1912519425681560610408574307424075866, 1540785931047310199160908, 1912519425693886142800129828353867849, 2130737893888927695950301127654837029240910, 1912503977177798997683309796239147094, 1912519425687723384901664604515729480, 1540780399491137894678610, 1912522858691298276998117812654374994, 3282913725911936856828740580831693252424442511752932869910509715575, 3282952028830959476077141623270975943526100070024452117747389169779, 2130791440450559867196457984434788335812657, 2130791440450559867196457984434788335812658, 2644885238607229958237730191633002097848579169282752627, 7792748774701286039288661501131537629845469152622726776069904396305216684174617842999596611403757698571892845510775, 2946666647802706750477463036615967466400886740484078820720755, 3657559837796797806856337022840992220590623768015070481589246455295836279, 4539872824110541332079174160378796217060842297133292506209319805851893452394152132727, 7792797731992001200074157202671313259590956506690858524463925271321988163398081909936302131994156409173831425785975, 12005783080236898530649054359212986734223490188014656791750719341483450909470404724330838628944115168202682373572859480001625959705332482158, 3657402273076458988135476053986786602161561846706867450883031097777651794, 35373802018094017553871970382965562389941494250628951827180273351334543432873018667691160658988801909168920166541670470148281878257551264256795160155293664064419159573097841535133675260247797199339630, 39410377313982762084979408667306528645382498042556722778083468704002031079369163123108299147903346875244407286960289570197320743593726833777391786486602969424718588531046621928334795672707595961689162449006, 10776477878651114231013347393532548433574519838595075548164445635686864674604135169872032218985338921244404270773537185966804303937646, 12006289525903082071878301248652808383558257577844819229736287574738159076742107937214281161546762916319457374946522847577425939311547711598, 5635061531645799220348949340491699159678233560206798509376548757043981478134440095616105537142883, 14902566179172561147463015186589316691484857302600414735110088356804497711315805796484684033809350844290966804181653202751120554463578836422772707623022, 6994495041847998748538923708239824897642152358212612269531318640581506352560872565342779838433804712907702371, 25580602898203327199981602499253967777410519153210258432297004901346628505376176397348259115622268360806143725370755626190248152127409274871241380167330523340093943332014403433332846, 5634930037424444063196348404196099154863413202850778066773376387589383775079281344015961939968116, 2946613755742662221664956466889219258990328498256659082313800, 9672706046296166164411801613687291014098255464114693536352090343808252296856285343720840634826485832089395157039521733487558772, 5635167738362202865222043954361779491747212989689797236009359851134660612433036251004973007175796, 6994538984796325201398960785852473873157140101549165865803740739153897488559472412344958734508818686437163124, 12006289525903082071878277872791405855492749039297050489252051119743205629769233326204104841824900919120327614324488882656785057654692315252, 1382990825285746773, 1382989584054681678, 2644873369992270507296772440987373588120477971723255919, 3282896047675998532326244616549495659829827097402412541056349569135, 3657490903314516488591873832250938999405539309153842215336622306161131641, 6994538984796325201398960785852473862185648888734669484437245423719756887977924130338236577014161083266695279, 5635167738362202865222032982870566677250831623194481801868759269586378605710878756347369836707951, 2946629623423342019206434919267633400772895873580355655368819, 3657490903282106315763615894940989944689055800267738958018441434945945715, 2644823521713563824109636122102296159814490064377938035, 3282875423011426423702119620775101571386380055264399926816207536243, 2946629623423342019206434919267633383825300243977245675356265, 3657490903282106315763615894940989948513802846102050855882701846827565155, 2644823521713563824109636122102296158431582402650898547, 3657490903282106315763615894940989977199422855086798594780433027985506408, 2946629623423342019206434919267633376121847685090663309312108, 3282875423011426423702119620775101573102891086874953588673859223671, 2946629623423342019206434919267633396150828486868119871225957, 2946629623423342019206434919267633380743927517749671932067955, 3282875423011426423702119620775101585118394354957245533824731971689, 3282875423011426423702119620775101564520366742644866920196036952183, 2644823521713563824109636122102296158431582402645327973, 2644823521713563824109636122102296180557784749345341540, 3657490903282106315763615894940989973374667226700410069423855919546302564, 2644823521713563824109636122102296163963146022393020517, 2946629623423342019206434919267633373040480490382024477311076, 1383020615206764663]
theorem keys_eq (P : Params) : (esOf (hd.heap_39 P)).map keyN = KEYS := by kernel_rfl!
theorem keys_nd : ndN KEYS = true := by kernel_rfl!
theorem gl_ok (P : Params) : ndN ((esOf (hd.heap_39 P)).map keyN) = true ∧ (esOf (hd.heap_39 P)).all (fun e => match e.key with | .str _ _ => true | _ => false) = true := ⟨by rw [keys_eq]; exact keys_nd, by kernel_rfl!⟩
theorem gl_dict (P : Params) : (match (hd.heap_39 P).lookup mainGlobals with | some ⟨_, _, .dict _ _, _⟩ => true | _ => false) = true := by kernel_rfl!
theorem gl_MONTH_DAYS (P : Params) : nsIn (hd.heap_39 P) mainGlobals (Str.ofString "MONTH_DAYS") = some (some (.ref 15)) := gl_at (t := 202) (hh := PyData.keyHash P (Str.ofString "MONTH_DAYS")) 9 (gl_ok P) (by kernel_rfl!)
theorem gl_isleap (P : Params) : nsIn (hd.heap_39 P) mainGlobals (Str.ofString "isleap") = some (some (.ref 22)) := gl_at (t := 209) (hh := PyData.keyHash P (Str.ofString "isleap")) 10 (gl_ok P) (by kernel_rfl!)
theorem gl_monthrange (P : Params) : nsIn (hd.heap_39 P) mainGlobals (Str.ofString "monthrange") = some (some (.ref 29)) := gl_at (t := 220) (hh := PyData.keyHash P (Str.ofString "monthrange")) 11 (gl_ok P) (by kernel_rfl!)
theorem gl_trunc (P : Params) : nsIn (hd.heap_39 P) mainGlobals (Str.ofString "trunc") = some (some (.ref 36)) := gl_at (t := 229) (hh := PyData.keyHash P (Str.ofString "trunc")) 12 (gl_ok P) (by kernel_rfl!)
theorem gl_midnight (P : Params) : nsIn (hd.heap_39 P) mainGlobals (Str.ofString "midnight") = some (some (.ref 43)) := gl_at (t := 236) (hh := PyData.keyHash P (Str.ofString "midnight")) 13 (gl_ok P) (by kernel_rfl!)
theorem gl_jwday (P : Params) : nsIn (hd.heap_39 P) mainGlobals (Str.ofString "jwday") = some (some (.ref 50)) := gl_at (t := 243) (hh := PyData.keyHash P (Str.ofString "jwday")) 14 (gl_ok P) (by kernel_rfl!)
theorem gl_weekday_before (P : Params) : nsIn (hd.heap_39 P) mainGlobals (Str.ofString "weekday_before") = some (some (.ref 57)) := gl_at (t := 251) (hh := PyData.keyHash P (Str.ofString "weekday_before")) 15 (gl_ok P) (by kernel_rfl!)
theorem gl_search_weekday (P : Params) : nsIn (hd.heap_39 P) mainGlobals (Str.ofString "search_weekday") = some (some (.ref 64)) := gl_at (t := 261) (hh := PyData.keyHash P (Str.ofString "search_weekday")) 16 (gl_ok P) (by kernel_rfl!)
theorem gl_next_weekday (P : Params) : nsIn (hd.heap_39 P) mainGlobals (Str.ofString "next_weekday") = some (some (.ref 71)) := gl_at (t := 269) (hh := PyData.keyHash P (Str.ofString "next_weekday")) 17 (gl_ok P) (by kernel_rfl!)
theorem gl_previous_weekday (P : Params) : nsIn (hd.heap_39 P) mainGlobals (Str.ofString "previous_weekday") = some (some (.ref 78)) := gl_at (t := 277) (hh := PyData.keyHash P (Str.ofString "previous_weekday")) 18 (gl_ok P) (by kernel_rfl!)
theorem gl_n_weeks (P : Params) : nsIn (hd.heap_39 P) mainGlobals (Str.ofString "n_weeks") = some (some (.ref 85)) := gl_at (t := 287) (hh := PyData.keyHash P (Str.ofString "n_weeks")) 19 (gl_ok P) (by kernel_rfl!)
theorem gl_EPOCH_gregorian (P : Params) : nsIn (hd.heap_39 P) mainGlobals (Str.ofString "EPOCH_gregorian") = some (some (.int 1721426 290)) := gl_at (t := 291) (hh := PyData.keyHash P (Str.ofString "EPOCH_gregorian")) 20 (gl_ok P) (by kernel_rfl!)
theorem gl_INTERCALATION_CYCLE_YEARS (P : Params) : nsIn (hd.heap_39 P) mainGlobals (Str.ofString "INTERCALATION_CYCLE_YEARS") = some (some (.int 400 292)) := gl_at (t := 293) (hh := PyData.keyHash P (Str.ofString "INTERCALATION_CYCLE_YEARS")) 21 (gl_ok P) (by kernel_rfl!)
theorem gl_INTERCALATION_CYCLE_DAYS (P : Params) : nsIn (hd.heap_39 P) mainGlobals (Str.ofString "INTERCALATION_CYCLE_DAYS") = some (some (.int 146097 294)) := gl_at (t := 295) (hh := PyData.keyHash P (Str.ofString "INTERCALATION_CYCLE_DAYS")) 22 (gl_ok P) (by kernel_rfl!)
theorem gl_LEAP_SUPPRESSION_YEARS (P : Params) : nsIn (hd.heap_39 P) mainGlobals (Str.ofString "LEAP_SUPPRESSION_YEARS") = some (some (.int 100 296)) := gl_at (t := 297) (hh := PyData.keyHash P (Str.ofString "LEAP_SUPPRESSION_YEARS")) 23 (gl_ok P) (by kernel_rfl!)
theorem gl_LEAP_SUPPRESSION_DAYS (P : Params) : nsIn (hd.heap_39 P) mainGlobals (Str.ofString "LEAP_SUPPRESSION_DAYS") = some (some (.int 36524 298)) := gl_at (t := 299) (hh := PyData.keyHash P (Str.ofString "LEAP_SUPPRESSION_DAYS")) 24 (gl_ok P) (by kernel_rfl!)
theorem gl_LEAP_CYCLE_YEARS_gregorian (P : Params) : nsIn (hd.heap_39 P) mainGlobals (Str.ofString "LEAP_CYCLE_YEARS_gregorian") = some (some (.int 4 300)) := gl_at (t := 301) (hh := PyData.keyHash P (Str.ofString "LEAP_CYCLE_YEARS_gregorian")) 25 (gl_ok P) (by kernel_rfl!)
theorem gl_LEAP_CYCLE_DAYS_gregorian (P : Params) : nsIn (hd.heap_39 P) mainGlobals (Str.ofString "LEAP_CYCLE_DAYS_gregorian") = some (some (.int 1461 302)) := gl_at (t := 303) (hh := PyData.keyHash P (Str.ofString "LEAP_CYCLE_DAYS_gregorian")) 26 (gl_ok P) (by kernel_rfl!)
theorem gl_YEAR_DAYS (P : Params) : nsIn (hd.heap_39 P) mainGlobals (Str.ofString "YEAR_DAYS") = some (some (.int 365 304)) := gl_at (t := 305) (hh := PyData.keyHash P (Str.ofString "YEAR_DAYS")) 27 (gl_ok P) (by kernel_rfl!)
theorem gl_HAVE_30_DAYS_gregorian (P : Params) : nsIn (hd.heap_39 P) mainGlobals (Str.ofString "HAVE_30_DAYS_gregorian") = some (some (.ref 86)) := gl_at (t := 310) (hh := PyData.keyHash P (Str.ofString "HAVE_30_DAYS_gregorian")) 28 (gl_ok P) (by kernel_rfl!)
theorem gl_legal_date (P : Params) : nsIn (hd.heap_39 P) mainGlobals (Str.ofString "legal_date") = some (some (.ref 431)) := gl_at (t := 320) (hh := PyData.keyHash P (Str.ofString "legal_date")) 29 (gl_ok P) (by kernel_rfl!)
theorem gl_legal_date_gregorian (P : Params) : nsIn (hd.heap_39 P) mainGlobals (Str.ofString "legal_date_gregorian") = some (some (.ref 93)) := gl_at (t := 321) (hh := PyData.keyHash P (Str.ofString "legal_date_gregorian")) 30 (gl_ok P) (by kernel_rfl!)
theorem gl_to_jd (P : Params) : nsIn (hd.heap_39 P) mainGlobals (Str.ofString "to_jd") = some (some (.ref 459)) := gl_at (t := 331) (hh := PyData.keyHash P (Str.ofString "to_jd")) 31 (gl_ok P) (by kernel_rfl!)
theorem gl_to_jd_gregorian (P : Params) : nsIn (hd.heap_39 P) mainGlobals (Str.ofString "to_jd_gregorian") = some (some (.ref 100)) := gl_at (t := 332) (hh := PyData.keyHash P (Str.ofString "to_jd_gregorian")) 32 (gl_ok P) (by kernel_rfl!)
theorem gl_from_jd (P : Params) : nsIn (hd.heap_39 P) mainGlobals (Str.ofString "from_jd") = some (some (.ref 466)) := gl_at (t := 354) (hh := PyData.keyHash P (Str.ofString "from_jd")) 33 (gl_ok P) (by kernel_rfl!)
theorem gl_from_jd_gregorian (P : Params) : nsIn (hd.heap_39 P) mainGlobals (Str.ofString "from_jd_gregorian") = some (some (.ref 107)) := gl_at (t := 355) (hh := PyData.keyHash P (Str.ofString "from_jd_gregorian")) 34 (gl_ok P) (by kernel_rfl!)
theorem gl_month_length (P : Params) : nsIn (hd.heap_39 P) mainGlobals (Str.ofString "month_length") = some (some (.ref 350)) := gl_at (t := 363) (hh := PyData.keyHash P (Str.ofString "month_length")) 35 (gl_ok P) (by kernel_rfl!)
theorem gl_month_length_gregorian (P : Params) : nsIn (hd.heap_39 P) mainGlobals (Str.ofString "month_length_gregorian") = some (some (.ref 114)) := gl_at (t := 364) (hh := PyData.keyHash P (Str.ofString "month_length_gregorian")) 36 (gl_ok P) (by kernel_rfl!)
theorem gl_to_jd_ordinal (P : Params) : nsIn (hd.heap_39 P) mainGlobals (Str.ofString "to_jd_ordinal") = some (some (.ref 121)) := gl_at (t := 375) (hh := PyData.keyHash P (Str.ofString "to_jd_ordinal")) 37 (gl_ok P) (by kernel_rfl!)
theorem gl_from_jd_ordinal (P : Params) : nsIn (hd.heap_39 P) mainGlobals (Str.ofString "from_jd_ordinal") = some (some (.ref 128)) := gl_at (t := 386) (hh := PyData.keyHash P (Str.ofString "from_jd_ordinal")) 38 (gl_ok P) (by kernel_rfl!)
theorem gl_from_gregorian (P : Params) : nsIn (hd.heap_39 P) mainGlobals (Str.ofString "from_gregorian") = some (some (.ref 480)) := gl_at (t := 398) (hh := PyData.keyHash P (Str.ofString "from_gregorian")) 39 (gl_ok P) (by kernel_rfl!)
theorem gl_from_gregorian_ordinal (P : Params) : nsIn (hd.heap_39 P) mainGlobals (Str.ofString "from_gregorian_ordinal") = some (some (.ref 135)) := gl_at (t := 399) (hh := PyData.keyHash P (Str.ofString "from_gregorian_ordinal")) 40 (gl_ok P) (by kernel_rfl!)
theorem gl_to_gregorian (P : Params) : nsIn (hd.heap_39 P) mainGlobals (Str.ofString "to_gregorian") = some (some (.ref 487)) := gl_at (t := 411) (hh := PyData.keyHash P (Str.ofString "to_gregorian")) 41 (gl_ok P) (by kernel_rfl!)
theorem gl_to_gregorian_ordinal (P : Params) : nsIn (hd.heap_39 P) mainGlobals (Str.ofString "to_gregorian_ordinal") = some (some (.ref 142)) := gl_at (t := 412) (hh := PyData.keyHash P (Str.ofString "to_gregorian_ordinal")) 42 (gl_ok P) (by kernel_rfl!)
theorem gl_HAVE_30_DAYS_julian (P : Params) : nsIn (hd.heap_39 P) mainGlobals (Str.ofString "HAVE_30_DAYS_julian") = some (some (.ref 143)) := gl_at (t := 419) (hh := PyData.keyHash P (Str.ofString "HAVE_30_DAYS_julian")) 43 (gl_ok P) (by kernel_rfl!)
theorem gl_leap (P : Params) : nsIn (hd.heap_39 P) mainGlobals (Str.ofString "leap") = some (some (.ref 386)) := gl_at (t := 426) (hh := PyData.keyHash P (Str.ofString "leap")) 44 (gl_ok P) (by kernel_rfl!)
theorem gl_leap_julian (P : Params) : nsIn (hd.heap_39 P) mainGlobals (Str.ofString "leap_julian") = some (some (.ref 150)) := gl_at (t := 427) (hh := PyData.keyHash P (Str.ofString "leap_julian")) 45 (gl_ok P) (by kernel_rfl!)
theorem gl_month_length_julian (P : Params) : nsIn (hd.heap_39 P) mainGlobals (Str.ofString "month_length_julian") = some (some (.ref 157)) := gl_at (t := 437) (hh := PyData.keyHash P (Str.ofString "month_length_julian")) 46 (gl_ok P) (by kernel_rfl!)
theorem gl_legal_date_julian (P : Params) : nsIn (hd.heap_39 P) mainGlobals (Str.ofString "legal_date_julian") = some (some (.ref 164)) := gl_at (t := 448) (hh := PyData.keyHash P (Str.ofString "legal_date_julian")) 47 (gl_ok P) (by kernel_rfl!)
theorem gl_from_jd_julian (P : Params) : nsIn (hd.heap_39 P) mainGlobals (Str.ofString "from_jd_julian") = some (some (.ref 171)) := gl_at (t := 464) (hh := PyData.keyHash P (Str.ofString "from_jd_julian")) 48 (gl_ok P) (by kernel_rfl!)
theorem gl_to_jd_julian (P : Params) : nsIn (hd.heap_39 P) mainGlobals (Str.ofString "to_jd_julian") = some (some (.ref 178)) := gl_at (t := 474) (hh := PyData.keyHash P (Str.ofString "to_jd_julian")) 49 (gl_ok P) (by kernel_rfl!)
theorem gl_to_gregorian_julian (P : Params) : nsIn (hd.heap_39 P) mainGlobals (Str.ofString "to_gregorian_julian") = some (some (.ref 185)) := gl_at (t := 484) (hh := PyData.keyHash P (Str.ofString "to_gregorian_julian")) 50 (gl_ok P) (by kernel_rfl!)
theorem gl_EPOCH_islamic (P : Params) : nsIn (hd.heap_39 P) mainGlobals (Str.ofString "EPOCH_islamic") = some (some (.int 1948440 487)) := gl_at (t := 488) (hh := PyData.keyHash P (Str.ofString "EPOCH_islamic")) 51 (gl_ok P) (by kernel_rfl!)
theorem gl_to_jd_islamic (P : Params) : nsIn (hd.heap_39 P) mainGlobals (Str.ofString "to_jd_islamic") = some (some (.ref 192)) := gl_at (t := 498) (hh := PyData.keyHash P (Str.ofString "to_jd_islamic")) 52 (gl_ok P) (by kernel_rfl!)
theorem gl_from_jd_islamic (P : Params) : nsIn (hd.heap_39 P) mainGlobals (Str.ofString "from_jd_islamic") = some (some (.ref 199)) := gl_at (t := 509) (hh := PyData.keyHash P (Str.ofString "from_jd_islamic")) 53 (gl_ok P) (by kernel_rfl!)
theorem gl_to_gregorian_islamic (P : Params) : nsIn (hd.heap_39 P) mainGlobals (Str.ofString "to_gregorian_islamic") = some (some (.ref 206)) := gl_at (t := 519) (hh := PyData.keyHash P (Str.ofString "to_gregorian_islamic")) 54 (gl_ok P) (by kernel_rfl!)
theorem gl_EPOCH_coptic (P : Params) : nsIn (hd.heap_39 P) mainGlobals (Str.ofString "EPOCH_coptic") = some (some (.int 1825030 522)) := gl_at (t := 523) (hh := PyData.keyHash P (Str.ofString "EPOCH_coptic")) 55 (gl_ok P) (by kernel_rfl!)
theorem gl_to_jd_coptic (P : Params) : nsIn (hd.heap_39 P) mainGlobals (Str.ofString "to_jd_coptic") = some (some (.ref 213)) := gl_at (t := 533) (hh := PyData.keyHash P (Str.ofString "to_jd_coptic")) 56 (gl_ok P) (by kernel_rfl!)
theorem gl_from_jd_coptic (P : Params) : nsIn (hd.heap_39 P) mainGlobals (Str.ofString "from_jd_coptic") = some (some (.ref 220)) := gl_at (t := 545) (hh := PyData.keyHash P (Str.ofString "from_jd_coptic")) 57 (gl_ok P) (by kernel_rfl!)
theorem gl_to_gregorian_coptic (P : Params) : nsIn (hd.heap_39 P) mainGlobals (Str.ofString "to_gregorian_coptic") = some (some (.ref 227)) := gl_at (t := 555) (hh := PyData.keyHash P (Str.ofString "to_gregorian_coptic")) 58 (gl_ok P) (by kernel_rfl!)
theorem gl_SAKA_EPOCH (P : Params) : nsIn (hd.heap_39 P) mainGlobals (Str.ofString "SAKA_EPOCH") = some (some (.int 78 558)) := gl_at (t := 559) (hh := PyData.keyHash P (Str.ofString "SAKA_EPOCH")) 59 (gl_ok P) (by kernel_rfl!)
theorem gl_to_jd_indian_civil (P : Params) : nsIn (hd.heap_39 P) mainGlobals (Str.ofString "to_jd_indian_civil") = some (some (.ref 234)) := gl_at (t := 575) (hh := PyData.keyHash P (Str.ofString "to_jd_indian_civil")) 60 (gl_ok P) (by kernel_rfl!)
theorem gl_from_jd_indian_civil (P : Params) : nsIn (hd.heap_39 P) mainGlobals (Str.ofString "from_jd_indian_civil") = some (some (.ref 241)) := gl_at (t := 594) (hh := PyData.keyHash P (Str.ofString "from_jd_indian_civil")) 61 (gl_ok P) (by kernel_rfl!)
theorem gl_to_gregorian_indian_civil (P : Params) : nsIn (hd.heap_39 P) mainGlobals (Str.ofString "to_gregorian_indian_civil") = some (some (.ref 248)) := gl_at (t := 604) (hh := PyData.keyHash P (Str.ofString "to_gregorian_indian_civil")) 62 (gl_ok P) (by kernel_rfl!)
theorem gl_EPOCH_mayan (P : Params) : nsIn (hd.heap_39 P) mainGlobals (Str.ofString "EPOCH_mayan") = some (some (.int 584283 607)) := gl_at (t := 608) (hh := PyData.keyHash P (Str.ofString "EPOCH_mayan")) 63 (gl_ok P) (by kernel_rfl!)
theorem gl_to_jd_mayan (P : Params) : nsIn (hd.heap_39 P) mainGlobals (Str.ofString "to_jd_mayan") = some (some (.ref 255)) := gl_at (t := 620) (hh := PyData.keyHash P (Str.ofString "to_jd_mayan")) 64 (gl_ok P) (by kernel_rfl!)
theorem gl_from_jd_mayan (P : Params) : nsIn (hd.heap_39 P) mainGlobals (Str.ofString "from_jd_mayan") = some (some (.ref 262)) := gl_at (t := 634) (hh := PyData.keyHash P (Str.ofString "from_jd_mayan")) 65 (gl_ok P) (by kernel_rfl!)
theorem gl_to_gregorian_mayan (P : Params) : nsIn (hd.heap_39 P) mainGlobals (Str.ofString "to_gregorian_mayan") = some (some (.ref 269)) := gl_at (t := 647) (hh := PyData.keyHash P (Str.ofString "to_gregorian_mayan")) 66 (gl_ok P) (by kernel_rfl!)
theorem gl_EPOCH_armenian (P : Params) : nsIn (hd.heap_39 P) mainGlobals (Str.ofString "EPOCH_armenian") = some (some (.int 1922502 650)) := gl_at (t := 651) (hh := PyData.keyHash P (Str.ofString "EPOCH_armenian")) 67 (gl_ok P) (by kernel_rfl!)
theorem gl_EPOCH_SARKAWAG (P : Params) : nsIn (hd.heap_39 P) mainGlobals (Str.ofString "EPOCH_SARKAWAG") = some (some (.int 2117211 652)) := gl_at (t := 653) (hh := PyData.keyHash P (Str.ofString "EPOCH_SARKAWAG")) 68 (gl_ok P) (by kernel_rfl!)
theorem gl_valid_date (P : Params) : nsIn (hd.heap_39 P) mainGlobals (Str.ofString "_valid_date") = some (some (.ref 277)) := gl_at (t := 667) (hh := PyData.keyHash P (Str.ofString "_valid_date")) 69 (gl_ok P) (by kernel_rfl!)
theorem gl_leap_armenian (P : Params) : nsIn (hd.heap_39 P) mainGlobals (Str.ofString "leap_armenian") = some (some (.ref 284)) := gl_at (t := 675) (hh := PyData.keyHash P (Str.ofString "leap_armenian")) 70 (gl_ok P) (by kernel_rfl!)
theorem gl_to_jd_armenian (P : Params) : nsIn (hd.heap_39 P) mainGlobals (Str.ofString "to_jd_armenian") = some (some (.ref 292)) := gl_at (t := 689) (hh := PyData.keyHash P (Str.ofString "to_jd_armenian")) 71 (gl_ok P) (by kernel_rfl!)
theorem gl_from_jd_armenian (P : Params) : nsIn (hd.heap_39 P) mainGlobals (Str.ofString "from_jd_armenian") = some (some (.ref 300)) := gl_at (t := 703) (hh := PyData.keyHash P (Str.ofString "from_jd_armenian")) 72 (gl_ok P) (by kernel_rfl!)
theorem gl_to_gregorian_armenian (P : Params) : nsIn (hd.heap_39 P) mainGlobals (Str.ofString "to_gregorian_armenian") = some (some (.ref 308)) := gl_at (t := 714) (hh := PyData.keyHash P (Str.ofString "to_gregorian_armenian")) 73 (gl_ok P) (by kernel_rfl!)
theorem gl_EPOCH_hebrew (P : Params) : nsIn (hd.heap_39 P) mainGlobals (Str.ofString "EPOCH_hebrew") = some (some (.int 347996 717)) := gl_at (t := 718) (hh := PyData.keyHash P (Str.ofString "EPOCH_hebrew")) 74 (gl_ok P) (by kernel_rfl!)
theorem gl_NISAN (P : Params) : nsIn (hd.heap_39 P) mainGlobals (Str.ofString "NISAN") = some (some (.int 1 719)) := gl_at (t := 720) (hh := PyData.keyHash P (Str.ofString "NISAN")) 75 (gl_ok P) (by kernel_rfl!)
theorem gl_IYYAR (P : Params) : nsIn (hd.heap_39 P) mainGlobals (Str.ofString "IYYAR") = some (some (.int 2 721)) := gl_at (t := 722) (hh := PyData.keyHash P (Str.ofString "IYYAR")) 76 (gl_ok P) (by kernel_rfl!)
theorem gl_TAMMUZ (P : Params) : nsIn (hd.heap_39 P) mainGlobals (Str.ofString "TAMMUZ") = some (some (.int 4 723)) := gl_at (t := 724) (hh := PyData.keyHash P (Str.ofString "TAMMUZ")) 77 (gl_ok P) (by kernel_rfl!)
theorem gl_ELUL (P : Params) : nsIn (hd.heap_39 P) mainGlobals (Str.ofString "ELUL") = some (some (.int 6 725)) := gl_at (t := 726) (hh := PyData.keyHash P (Str.ofString "ELUL")) 78 (gl_ok P) (by kernel_rfl!)
theorem gl_TISHRI (P : Params) : nsIn (hd.heap_39 P) mainGlobals (Str.ofString "TISHRI") = some (some (.int 7 727)) := gl_at (t := 728) (hh := PyData.keyHash P (Str.ofString "TISHRI")) 79 (gl_ok P) (by kernel_rfl!)
theorem gl_HESHVAN (P : Params) : nsIn (hd.heap_39 P) mainGlobals (Str.ofString "HESHVAN") = some (some (.int 8 729)) := gl_at (t := 730) (hh := PyData.keyHash P (Str.ofString "HESHVAN")) 80 (gl_ok P) (by kernel_rfl!)
theorem gl_KISLEV (P : Params) : nsIn (hd.heap_39 P) mainGlobals (Str.ofString "KISLEV") = some (some (.int 9 731)) := gl_at (t := 732) (hh := PyData.keyHash P (Str.ofString "KISLEV")) 81 (gl_ok P) (by kernel_rfl!)
theorem gl_TEVETH (P : Params) : nsIn (hd.heap_39 P) mainGlobals (Str.ofString "TEVETH") = some (some (.int 10 733)) := gl_at (t := 734) (hh := PyData.keyHash P (Str.ofString "TEVETH")) 82 (gl_ok P) (by kernel_rfl!)
theorem gl_ADAR (P : Params) : nsIn (hd.heap_39 P) mainGlobals (Str.ofString "ADAR") = some (some (.int 12 735)) := gl_at (t := 736) (hh := PyData.keyHash P (Str.ofString "ADAR")) 83 (gl_ok P) (by kernel_rfl!)
theorem gl_VEADAR (P : Params) : nsIn (hd.heap_39 P) mainGlobals (Str.ofString "VEADAR") = some (some (.int 13 737)) := gl_at (t := 738) (hh := PyData.keyHash P (Str.ofString "VEADAR")) 84 (gl_ok P) (by kernel_rfl!)
theorem gl_leap_hebrew (P : Params) : nsIn (hd.heap_39 P) mainGlobals (Str.ofString "leap_hebrew") = some (some (.ref 315)) := gl_at (t := 746) (hh := PyData.keyHash P (Str.ofString "leap_hebrew")) 85 (gl_ok P) (by kernel_rfl!)
theorem gl_year_months (P : Params) : nsIn (hd.heap_39 P) mainGlobals (Str.ofString "year_months") = some (some (.ref 322)) := gl_at (t := 753) (hh := PyData.keyHash P (Str.ofString "year_months")) 86 (gl_ok P) (by kernel_rfl!)
theorem gl_delay_1 (P : Params) : nsIn (hd.heap_39 P) mainGlobals (Str.ofString "delay_1") = some (some (.ref 329)) := gl_at (t := 763) (hh := PyData.keyHash P (Str.ofString "delay_1")) 87 (gl_ok P) (by kernel_rfl!)
theorem gl_delay_2 (P : Params) : nsIn (hd.heap_39 P) mainGlobals (Str.ofString "delay_2") = some (some (.ref 336)) := gl_at (t := 773) (hh := PyData.keyHash P (Str.ofString "delay_2")) 88 (gl_ok P) (by kernel_rfl!)
theorem gl_year_days (P : Params) : nsIn (hd.heap_39 P) mainGlobals (Str.ofString "year_days") = some (some (.ref 343)) := gl_at (t := 780) (hh := PyData.keyHash P (Str.ofString "year_days")) 89 (gl_ok P) (by kernel_rfl!)
theorem gl_month_length_hebrew (P : Params) : nsIn (hd.heap_39 P) mainGlobals (Str.ofString "month_length_hebrew") = some (some (.ref 350)) := gl_at (t := 789) (hh := PyData.keyHash P (Str.ofString "month_length_hebrew")) 90 (gl_ok P) (by kernel_rfl!)
theorem gl_month_days (P : Params) : nsIn (hd.heap_39 P) mainGlobals (Str.ofString "month_days") = some (some (.ref 357)) := gl_at (t := 797) (hh := PyData.keyHash P (Str.ofString "month_days")) 91 (gl_ok P) (by kernel_rfl!)
theorem gl_to_jd_hebrew (P : Params) : nsIn (hd.heap_39 P) mainGlobals (Str.ofString "to_jd_hebrew") = some (some (.ref 364)) := gl_at (t := 810) (hh := PyData.keyHash P (Str.ofString "to_jd_hebrew")) 92 (gl_ok P) (by kernel_rfl!)
theorem gl_from_jd_hebrew (P : Params) : nsIn (hd.heap_39 P) mainGlobals (Str.ofString "from_jd_hebrew") = some (some (.ref 371)) := gl_at (t := 824) (hh := PyData.keyHash P (Str.ofString "from_jd_hebrew")) 93 (gl_ok P) (by kernel_rfl!)
theorem gl_to_gregorian_hebrew (P : Params) : nsIn (hd.heap_39 P) mainGlobals (Str.ofString "to_gregorian_hebrew") = some (some (.ref 378)) := gl_at (t := 834) (hh := PyData.keyHash P (Str.ofString "to_gregorian_hebrew")) 94 (gl_ok P) (by kernel_rfl!)
theorem gl_EPOCH_french_republican (P : Params) : nsIn (hd.heap_39 P) mainGlobals (Str.ofString "EPOCH_french_republican") = some (some (.int 2375840 837)) := gl_at (t := 838) (hh := PyData.keyHash P (Str.ofString "EPOCH_french_republican")) 95 (gl_ok P) (by kernel_rfl!)
theorem gl_DAYS_IN_YEAR (P : Params) : nsIn (hd.heap_39 P) mainGlobals (Str.ofString "DAYS_IN_YEAR") = some (some (.int 365 839)) := gl_at (t := 840) (hh := PyData.keyHash P (Str.ofString "DAYS_IN_YEAR")) 96 (gl_ok P) (by kernel_rfl!)
theorem gl_LEAP_CYCLE_DAYS_french_republican (P : Params) : nsIn (hd.heap_39 P) mainGlobals (Str.ofString "LEAP_CYCLE_DAYS_french_republican") = some (some (.int 1461 841)) := gl_at (t := 842) (hh := PyData.keyHash P (Str.ofString "LEAP_CYCLE_DAYS_french_republican")) 97 (gl_ok P) (by kernel_rfl!)
theorem gl_LEAP_CYCLE_YEARS_french_republican (P : Params) : nsIn (hd.heap_39 P) mainGlobals (Str.ofString "LEAP_CYCLE_YEARS_french_republican") = some (some (.int 4 843)) := gl_at (t := 844) (hh := PyData.keyHash P (Str.ofString "LEAP_CYCLE_YEARS_french_republican")) 98 (gl_ok P) (by kernel_rfl!)
theorem gl_leap_french_republican (P : Params) : nsIn (hd.heap_39 P) mainGlobals (Str.ofString "leap_french_republican") = some (some (.ref 386)) := gl_at (t := 853) (hh := PyData.keyHash P (Str.ofString "leap_french_republican")) 99 (gl_ok P) (by kernel_rfl!)
theorem gl_to_jd_french_republican (P : Params) : nsIn (hd.heap_39 P) mainGlobals (Str.ofString "to_jd_french_republican") = some (some (.ref 394)) := gl_at (t := 864) (hh := PyData.keyHash P (Str.ofString "to_jd_french_republican")) 100 (gl_ok P) (by kernel_rfl!)
theorem gl_to_jd_schematic (P : Params) : nsIn (hd.heap_39 P) mainGlobals (Str.ofString "_to_jd_schematic") = some (some (.ref 401)) := gl_at (t := 888) (hh := PyData.keyHash P (Str.ofString "_to_jd_schematic")) 101 (gl_ok P) (by kernel_rfl!)
theorem gl_from_jd_french_republican (P : Params) : nsIn (hd.heap_39 P) mainGlobals (Str.ofString "from_jd_french_republican") = some (some (.ref 409)) := gl_at (t := 897) (hh := PyData.keyHash P (Str.ofString "from_jd_french_republican")) 102 (gl_ok P) (by kernel_rfl!)
theorem gl_from_jd_schematic (P : Params) : nsIn (hd.heap_39 P) mainGlobals (Str.ofString "_from_jd_schematic") = some (some (.ref 416)) := gl_at (t := 920) (hh := PyData.keyHash P (Str.ofString "_from_jd_schematic")) 103 (gl_ok P) (by kernel_rfl!)
theorem gl_to_gregorian_french_republican (P : Params) : nsIn (hd.heap_39 P) mainGlobals (Str.ofString "to_gregorian_french_republican") = some (some (.ref 424)) := gl_at (t := 931) (hh := PyData.keyHash P (Str.ofString "to_gregorian_french_republican")) 104 (gl_ok P) (by kernel_rfl!)
theorem gl_EPOCH_positivist (P : Params) : nsIn (hd.heap_39 P) mainGlobals (Str.ofString "EPOCH_positivist") = some (some (.int 2374480 934)) := gl_at (t := 935) (hh := PyData.keyHash P (Str.ofString "EPOCH_positivist")) 105 (gl_ok P) (by kernel_rfl!)
theorem gl_YEAR_EPOCH (P : Params) : nsIn (hd.heap_39 P) mainGlobals (Str.ofString "YEAR_EPOCH") = some (some (.int 1789 936)) := gl_at (t := 937) (hh := PyData.keyHash P (Str.ofString "YEAR_EPOCH")) 106 (gl_ok P) (by kernel_rfl!)
theorem gl_legal_date_positivist (P : Params) : nsIn (hd.heap_39 P) mainGlobals (Str.ofString "legal_date_positivist") = some (some (.ref 431)) := gl_at (t := 948) (hh := PyData.keyHash P (Str.ofString "legal_date_positivist")) 107 (gl_ok P) (by kernel_rfl!)
theorem gl_to_jd_positivist (P : Params) : nsIn (hd.heap_39 P) mainGlobals (Str.ofString "to_jd_positivist") = some (some (.ref 438)) := gl_at (t := 959) (hh := PyData.keyHash P (Str.ofString "to_jd_positivist")) 108 (gl_ok P) (by kernel_rfl!)
theorem gl_from_jd_positivist (P : Params) : nsIn (hd.heap_39 P) mainGlobals (Str.ofString "from_jd_positivist") = some (some (.ref 445)) := gl_at (t := 979) (hh := PyData.keyHash P (Str.ofString "from_jd_positivist")) 109 (gl_ok P) (by kernel_rfl!)
theorem gl_to_gregorian_positivist (P : Params) : nsIn (hd.heap_39 P) mainGlobals (Str.ofString "to_gregorian_positivist") = some (some (.ref 452)) := gl_at (t := 989) (hh := PyData.keyHash P (Str.ofString "to_gregorian_positivist")) 110 (gl_ok P) (by kernel_rfl!)
theorem gl_THU (P : Params) : nsIn (hd.heap_39 P) mainGlobals (Str.ofString "THU") = some (some (.int 3 992)) := gl_at (t := 993) (hh := PyData.keyHash P (Str.ofString "THU")) 111 (gl_ok P) (by kernel_rfl!)
theorem gl_SUN (P : Params) : nsIn (hd.heap_39 P) mainGlobals (Str.ofString "SUN") = some (some (.int 6 994)) := gl_at (t := 995) (hh := PyData.keyHash P (Str.ofString "SUN")) 112 (gl_ok P) (by kernel_rfl!)
theorem gl_to_jd_iso (P : Params) : nsIn (hd.heap_39 P) mainGlobals (Str.ofString "to_jd_iso") = some (some (.ref 459)) := gl_at (t := 1005) (hh := PyData.keyHash P (Str.ofString "to_jd_iso")) 113 (gl_ok P) (by kernel_rfl!)
theorem gl_from_jd_iso (P : Params) : nsIn (hd.heap_39 P) mainGlobals (Str.ofString "from_jd_iso") = some (some (.ref 466)) := gl_at (t := 1013) (hh := PyData.keyHash P (Str.ofString "from_jd_iso")) 114 (gl_ok P) (by kernel_rfl!)
theorem gl_week1monday (P : Params) : nsIn (hd.heap_39 P) mainGlobals (Str.ofString "_week1monday") = some (some (.ref 473)) := gl_at (t := 1023) (hh := PyData.keyHash P (Str.ofString "_week1monday")) 115 (gl_ok P) (by kernel_rfl!)
theorem gl_from_gregorian_iso (P : Params) : nsIn (hd.heap_39 P) mainGlobals (Str.ofString "from_gregorian_iso") = some (some (.ref 480)) := gl_at (t := 1036) (hh := PyData.keyHash P (Str.ofString "from_gregorian_iso")) 116 (gl_ok P) (by kernel_rfl!)
theorem gl_to_gregorian_iso (P : Params) : nsIn (hd.heap_39 P) mainGlobals (Str.ofString "to_gregorian_iso") = some (some (.ref 487)) := gl_at (t := 1046) (hh := PyData.keyHash P (Str.ofString "to_gregorian_iso")) 117 (gl_ok P) (by kernel_rfl!)
theorem gl_law_sizes (P : Params) : nsIn (hd.heap_39 P) mainGlobals (Str.ofString "_law_sizes") = some (some (.ref 488)) := gl_at (t := 1061) (hh := PyData.keyHash P (Str.ofString "_law_sizes")) 118 (gl_ok P) (by kernel_rfl!)
theorem gl_law_corners (P : Params) : nsIn (hd.heap_39 P) mainGlobals (Str.ofString "_law_corners") = some (some (.ref 489)) := gl_at (t := 1074) (hh := PyData.keyHash P (Str.ofString "_law_corners")) 119 (gl_ok P) (by kernel_rfl!)
theorem gl_law_eras (P : Params) : nsIn (hd.heap_39 P) mainGlobals (Str.ofString "_law_eras") = some (some (.ref 490)) := gl_at (t := 1081) (hh := PyData.keyHash P (Str.ofString "_law_eras")) 120 (gl_ok P) (by kernel_rfl!)
theorem gl_law_limits (P : Params) : nsIn (hd.heap_39 P) mainGlobals (Str.ofString "_law_limits") = some (some (.ref 491)) := gl_at (t := 1087) (hh := PyData.keyHash P (Str.ofString "_law_limits")) 121 (gl_ok P) (by kernel_rfl!)
theorem gl_law_hijri (P : Params) : nsIn (hd.heap_39 P) mainGlobals (Str.ofString "_law_hijri") = some (some (.ref 492)) := gl_at (t := 1099) (hh := PyData.keyHash P (Str.ofString "_law_hijri")) 122 (gl_ok P) (by kernel_rfl!)
theorem gl_law_embolic (P : Params) : nsIn (hd.heap_39 P) mainGlobals (Str.ofString "_law_embolic") = some (some (.ref 493)) := gl_at (t := 1107) (hh := PyData.keyHash P (Str.ofString "_law_embolic")) 123 (gl_ok P) (by kernel_rfl!)
theorem gl_law_days (P : Params) : nsIn (hd.heap_39 P) mainGlobals (Str.ofString "_law_days") = some (some (.ref 500)) := gl_at (t := 1114) (hh := PyData.keyHash P (Str.ofString "_law_days")) 124 (gl_ok P) (by kernel_rfl!)
theorem gl_law_through (P : Params) : nsIn (hd.heap_39 P) mainGlobals (Str.ofString "_law_through") = some (some (.ref 507)) := gl_at (t := 1124) (hh := PyData.keyHash P (Str.ofString "_law_through")) 125 (gl_ok P) (by kernel_rfl!)
theorem gl_law_civil (P : Params) : nsIn (hd.heap_39 P) mainGlobals (Str.ofString "_law_civil") = some (some (.ref 514)) := gl_at (t := 1133) (hh := PyData.keyHash P (Str.ofString "_law_civil")) 126 (gl_ok P) (by kernel_rfl!)
theorem gl_law_morrow (P : Params) : nsIn (hd.heap_39 P) mainGlobals (Str.ofString "_law_morrow") = some (some (.ref 521)) := gl_at (t := 1143) (hh := PyData.keyHash P (Str.ofString "_law_morrow")) 127 (gl_ok P) (by kernel_rfl!)
theorem gl_law_place (P : Params) : nsIn (hd.heap_39 P) mainGlobals (Str.ofString "_law_place") = some (some (.ref 528)) := gl_at (t := 1154) (hh := PyData.keyHash P (Str.ofString "_law_place")) 128 (gl_ok P) (by kernel_rfl!)
theorem gl_law_fours (P : Params) : nsIn (hd.heap_39 P) mainGlobals (Str.ofString "_law_fours") = some (some (.ref 535)) := gl_at (t := 1164) (hh := PyData.keyHash P (Str.ofString "_law_fours")) 129 (gl_ok P) (by kernel_rfl!)
theorem gl_law_tishri (P : Params) : nsIn (hd.heap_39 P) mainGlobals (Str.ofString "_law_tishri") = some (some (.ref 540)) := gl_at (t := 1170) (hh := PyData.keyHash P (Str.ofString "_law_tishri")) 130 (gl_ok P) (by kernel_rfl!)
theorem gl_law_hebrew (P : Params) : nsIn (hd.heap_39 P) mainGlobals (Str.ofString "_law_hebrew") = some (some (.ref 547)) := gl_at (t := 1184) (hh := PyData.keyHash P (Str.ofString "_law_hebrew")) 131 (gl_ok P) (by kernel_rfl!)
theorem gl_law_date (P : Params) : nsIn (hd.heap_39 P) mainGlobals (Str.ofString "_law_date") = some (some (.ref 552)) := gl_at (t := 1190) (hh := PyData.keyHash P (Str.ofString "_law_date")) 132 (gl_ok P) (by kernel_rfl!)
theorem gl_law_told (P : Params) : nsIn (hd.heap_39 P) mainGlobals (Str.ofString "_law_told") = some (some (.ref 559)) := gl_at (t := 1198) (hh := PyData.keyHash P (Str.ofString "_law_told")) 133 (gl_ok P) (by kernel_rfl!)
theorem gl_law_refused (P : Params) : nsIn (hd.heap_39 P) mainGlobals (Str.ofString "_law_refused") = some (some (.ref 566)) := gl_at (t := 1206) (hh := PyData.keyHash P (Str.ofString "_law_refused")) 134 (gl_ok P) (by kernel_rfl!)
theorem gl_law_home (P : Params) : nsIn (hd.heap_39 P) mainGlobals (Str.ofString "_law_home") = some (some (.ref 573)) := gl_at (t := 1217) (hh := PyData.keyHash P (Str.ofString "_law_home")) 135 (gl_ok P) (by kernel_rfl!)
theorem gl_law_asked (P : Params) : nsIn (hd.heap_39 P) mainGlobals (Str.ofString "_law_asked") = some (some (.ref 580)) := gl_at (t := 1225) (hh := PyData.keyHash P (Str.ofString "_law_asked")) 136 (gl_ok P) (by kernel_rfl!)
theorem gl_law (P : Params) : nsIn (hd.heap_39 P) mainGlobals (Str.ofString "law") = some (some (.ref 587)) := gl_at (t := 1241) (hh := PyData.keyHash P (Str.ofString "law")) 137 (gl_ok P) (by kernel_rfl!)
theorem gb_int (P : Params) : nsIn (hd.heap_39 P) mainGlobals (Str.ofString "int") = some none ∧ bootBuiltins (Str.ofString "int") = some (.type "int") ∧ Str.ofString "int" ≠ "__name__" := ⟨gl_none (gl_dict P) (gl_ok P).2 (by rw [keys_eq]; kernel_rfl!), boot_int, nm_ne (by decide +kernel)⟩
theorem gb_len (P : Params) : nsIn (hd.heap_39 P) mainGlobals (Str.ofString "len") = some none ∧ bootBuiltins (Str.ofString "len") = some (.builtin "len") ∧ Str.ofString "len" ≠ "__name__" := ⟨gl_none (gl_dict P) (gl_ok P).2 (by rw [keys_eq]; kernel_rfl!), boot_len, nm_ne (by decide +kernel)⟩
theorem gb_abs (P : Params) : nsIn (hd.heap_39 P) mainGlobals (Str.ofString "abs") = some none ∧ bootBuiltins (Str.ofString "abs") = some (.builtin "abs") ∧ Str.ofString "abs" ≠ "__name__" := ⟨gl_none (gl_dict P) (gl_ok P).2 (by rw [keys_eq]; kernel_rfl!), boot_abs, nm_ne (by decide +kernel)⟩
theorem gb_min (P : Params) : nsIn (hd.heap_39 P) mainGlobals (Str.ofString "min") = some none ∧ bootBuiltins (Str.ofString "min") = some (.builtin "min") ∧ Str.ofString "min" ≠ "__name__" := ⟨gl_none (gl_dict P) (gl_ok P).2 (by rw [keys_eq]; kernel_rfl!), boot_min, nm_ne (by decide +kernel)⟩
theorem gb_divmod (P : Params) : nsIn (hd.heap_39 P) mainGlobals (Str.ofString "divmod") = some none ∧ bootBuiltins (Str.ofString "divmod") = some (.builtin "divmod") ∧ Str.ofString "divmod" ≠ "__name__" := ⟨gl_none (gl_dict P) (gl_ok P).2 (by rw [keys_eq]; kernel_rfl!), boot_divmod, nm_ne (by decide +kernel)⟩
theorem gb_range (P : Params) : nsIn (hd.heap_39 P) mainGlobals (Str.ofString "range") = some none ∧ bootBuiltins (Str.ofString "range") = some (.type "range") ∧ Str.ofString "range" ≠ "__name__" := ⟨gl_none (gl_dict P) (gl_ok P).2 (by rw [keys_eq]; kernel_rfl!), boot_range, nm_ne (by decide +kernel)⟩
theorem gb_sum (P : Params) : nsIn (hd.heap_39 P) mainGlobals (Str.ofString "sum") = some none ∧ bootBuiltins (Str.ofString "sum") = some (.builtin "sum") ∧ Str.ofString "sum" ≠ "__name__" := ⟨gl_none (gl_dict P) (gl_ok P).2 (by rw [keys_eq]; kernel_rfl!), boot_sum, nm_ne (by decide +kernel)⟩
theorem gb_ValueError (P : Params) : nsIn (hd.heap_39 P) mainGlobals (Str.ofString "ValueError") = some none ∧ bootBuiltins (Str.ofString "ValueError") = some (.type "ValueError") ∧ Str.ofString "ValueError" ≠ "__name__" := ⟨gl_none (gl_dict P) (gl_ok P).2 (by rw [keys_eq]; kernel_rfl!), excClass_ValueError.boot, nm_ne (by decide +kernel)⟩
theorem gb_AssertionError (P : Params) : nsIn (hd.heap_39 P) mainGlobals (Str.ofString "AssertionError") = some none ∧ bootBuiltins (Str.ofString "AssertionError") = some (.type "AssertionError") ∧ Str.ofString "AssertionError" ≠ "__name__" := ⟨gl_none (gl_dict P) (gl_ok P).2 (by rw [keys_eq]; kernel_rfl!), excClass_AssertionError.boot, nm_ne (by decide +kernel)⟩

-- A1
def isleap (y : Int) : Bool := y % 4 == 0 && (y % 100 != 0 || y % 400 == 0)
def mlen (y m : Int) : Int := if m = 2 then (if isleap y then 29 else 28) else if m = 4 ∨ m = 6 ∨ m = 9 ∨ m = 11 then 30 else 31
def gadj (y m : Int) : Int := if m ≤ 2 then 0 else if isleap y then -1 else -2
def gjd (y m d : Int) : Int := 1721426 - 1 + 365 * (y - 1) + (y - 1) / 4 + -((y - 1) / 100) + (y - 1) / 400 + ((367 * m - 362) / 12 + gadj y m + d)

theorem isleap_eq (y : Int) : isleap y = (decide (y % 4 = 0) && (decide (y % 100 ≠ 0) || decide (y % 400 = 0))) := by
  unfold isleap
  simp [bne, BEq.beq]

set_option maxRecDepth 100000
set_option maxHeartbeats 4000000
theorem isleap_spec (news) (y : Int) (t : Tok) : Call1 w loose mean mg mb 1 22 news [.int y t] True (RetB (isleap y)) := by
  refine unwrap ?_
  simp (disch := k_dflt (
    k_with_none
    dsimp only [Call1]
    intro dp un gd cn cs aF ccd cl outer A₀ base h₀ L mp s Q E B F X N T hk hdp hun hpre hret
    refine wpAny_call ?_
    k_dflt cell_enter
    (rename Fr _ _ _ _ => FE)
    (refine' startP (l' := [(Str.ofString "year", .int y t)]) ?cs ?nd FE ?e ?S ?_)
    (case cs => (first | (dsimp only; done) | rfl))
    (case nd => kernel_rfl!)
    (case e => kernel_rfl!)
    (case S => with_reducible (apply Sts.cons; apply Sts.nil; (repeat (first | exact Nones.nil | apply Nones.cons)); (all_goals (repeat (first | exact St.here | apply St.there)))))
    (clear FE; intro hnd FE tk0; (try k_fold))
    k_steps
    all_goals (refine' endB hret ?q7a ?q7f ?q7n ?q7s; (case q7f => k_asm); (case q7n => k_asm); (case q7s => (first | exact fun _ h => h | exact fun _ h => .tail _ h | exact fun _ h => .tail _ (.tail _ h) | exact fun _ h => .tail _ (.tail _ (.tail _ h)) | exact fun _ h => .tail _ (.tail _ (.tail _ (.tail _ h))) | exact fun _ h => .tail _ (.tail _ (.tail _ (.tail _ (.tail _ h)))) | (intro p9 hp9; repeat (first | exact hp9 | refine List.Mem.tail _ ?_)))); (case q7a => ((rw [isleap_eq]; simp_all [bne, BEq.beq])))))) only [↓wrap_true]
local macro_rules | `(tactic| walk_at "call ref") => `(tactic| (k_here; (with_reducible show wpAny _ _ (call (Value.ref 22) _) _ _ _); k_dflt (refine' use1 (isleap_spec _ _ _) ?k1a22c1 ?k2a22c1 ?k3a22c1 ?k4a22c1 ?k5a22c1 ?kKa22c1 ?kda22c1 ?kua22c1 ?kpa22c1 ?_; (case k1a22c1 => k_asm); (case k2a22c1 => k_asm); (case k3a22c1 => k_asm); (case k4a22c1 => k_asm); (case k5a22c1 => k_asm); (case kKa22c1 => first | exact rfl | assumption); (case kda22c1 => first | omega | ktr_room); (case kua22c1 => first | omega | ktr_units); (case kpa22c1 => first | trivial | assumption | omega | (constructor <;> omega) | k_extra "pre")); intro h9 tk9 F9 N9; (try dsimp only); (try k_sweep); (try k_fold)))
theorem mlen_one (y m : Int) : 1 ≤ mlen y m := by
  unfold mlen
  repeat' split
  all_goals decide
  all_goals decide
theorem legal_spec (news) (y m d : Int) (t1 t2 t3 : Tok) : Call1 w loose mean mg mb 2 93 news [.int y t1, .int m t2, .int d t3] (0 < d ∧ d ≤ mlen y m) (RetB true) := by
  refine unwrap ?_
  simp (disch := k_dflt (
    k_with_none
    k_with "gl" => first | exact gl_isleap _ | exact gl_HAVE_30_DAYS_gregorian _
    k_with "gb" => first | exact gb_ValueError _
    dsimp only [Call1]
    intro dp un gd cn cs aF ccd cl outer A₀ base h₀ L mp s Q E B F X N T hk hdp hun hpre hret
    refine wpAny_call ?_
    k_dflt cell_enter
    (rename Fr _ _ _ _ => FE)
    (refine' startP (l' := [(Str.ofString "day", .int d t3), (Str.ofString "month", .int m t2), (Str.ofString "year", .int y t1)]) ?cs ?nd FE ?e ?S ?_)
    (case cs => (first | (dsimp only; done) | rfl))
    (case nd => kernel_rfl!)
    (case e => kernel_rfl!)
    (case S => with_reducible (apply Sts.cons; apply Sts.cons; apply Sts.cons; apply Sts.nil; (repeat (first | exact Nones.nil | apply Nones.cons)); (all_goals (repeat (first | exact St.here | apply St.there)))))
    (clear FE; intro hnd FE tk0; (try k_fold))
    k_with "raise" => (simp_all [mlen] <;> omega)
    k_steps
    all_goals (refine' endB hret ?q7a ?q7f ?q7n ?q7s; (case q7f => k_asm); (case q7n => k_asm); (case q7s => (first | exact fun _ h => h | exact fun _ h => .tail _ h | exact fun _ h => .tail _ (.tail _ h) | exact fun _ h => .tail _ (.tail _ (.tail _ h)) | exact fun _ h => .tail _ (.tail _ (.tail _ (.tail _ h))) | exact fun _ h => .tail _ (.tail _ (.tail _ (.tail _ (.tail _ h)))) | (intro p9 hp9; repeat (first | exact hp9 | refine List.Mem.tail _ ?_)))); (case q7a => (rfl))))) only [↓wrap_true]
local macro_rules | `(tactic| walk_at "call ref") => `(tactic| (k_here; (with_reducible show wpAny _ _ (call (Value.ref 93) _) _ _ _); k_dflt (refine' use1 (legal_spec _ _ _ _ _ _ _) ?k1a93c2 ?k2a93c2 ?k3a93c2 ?k4a93c2 ?k5a93c2 ?kKa93c2 ?kda93c2 ?kua93c2 ?kpa93c2 ?_; (case k1a93c2 => k_asm); (case k2a93c2 => k_asm); (case k3a93c2 => k_asm); (case k4a93c2 => k_asm); (case k5a93c2 => k_asm); (case kKa93c2 => first | exact rfl | assumption); (case kda93c2 => first | omega | ktr_room); (case kua93c2 => first | omega | ktr_units); (case kpa93c2 => first | assumption | exact ⟨by decide, mlen_one _ _⟩ | k_extra "pre")); intro h9 tk9 F9 N9; (try dsimp only); (try k_sweep); (try k_fold)))
theorem gadj_eq (y m : Int) : gadj y m = if m ≤ 2 then 0 else if isleap y then -1 else -2 := rfl
theorem to_jd_spec (news) (y m d : Int) (t1 t2 t3 : Tok) : Call1 w loose mean mg mb 3 100 news [.int y t1, .int m t2, .int d t3] (0 < d ∧ d ≤ mlen y m) (RetI (gjd y m d)) := by
  refine unwrap ?_
  simp (disch := k_dflt (
    k_with_none
    k_with "gl" => first | exact gl_legal_date_gregorian _ | exact gl_isleap _ | exact gl_INTERCALATION_CYCLE_YEARS _ | exact gl_LEAP_CYCLE_YEARS_gregorian _ | exact gl_LEAP_SUPPRESSION_YEARS _ | exact gl_EPOCH_gregorian _ | exact gl_YEAR_DAYS _
    dsimp only [Call1]
    intro dp un gd cn cs aF ccd cl outer A₀ base h₀ L mp s Q E B F X N T hk hdp hun hpre hret
    refine wpAny_call ?_
    k_dflt cell_enter
    (rename Fr _ _ _ _ => FE)
    (refine' startP (l' := [(Str.ofString "day", .int d t3), (Str.ofString "month", .int m t2), (Str.ofString "year", .int y t1)]) ?cs ?nd FE ?e ?S ?_)
    (case cs => (first | (dsimp only; done) | rfl))
    (case nd => kernel_rfl!)
    (case e => kernel_rfl!)
    (case S => with_reducible (apply Sts.cons; apply Sts.cons; apply Sts.cons; apply Sts.nil; (repeat (first | exact Nones.nil | apply Nones.cons)); (all_goals (repeat (first | exact St.here | apply St.there)))))
    (clear FE; intro hnd FE tk0; (try k_fold))
    k_steps
    all_goals (refine' endI hret ?q7a ?q7f ?q7n ?q7s; (case q7f => k_asm); (case q7n => k_asm); (case q7s => (first | exact fun _ h => h | exact fun _ h => .tail _ h | exact fun _ h => .tail _ (.tail _ h) | exact fun _ h => .tail _ (.tail _ (.tail _ h)) | exact fun _ h => .tail _ (.tail _ (.tail _ (.tail _ h))) | exact fun _ h => .tail _ (.tail _ (.tail _ (.tail _ (.tail _ h)))) | (intro p9 hp9; repeat (first | exact hp9 | refine List.Mem.tail _ ?_)))); (case q7a => ((simp_all [gjd, gadj])))))) only [↓wrap_true]
local macro_rules | `(tactic| walk_at "call ref") => `(tactic| (k_here; (with_reducible show wpAny _ _ (call (Value.ref 100) _) _ _ _); k_dflt (refine' use1 (to_jd_spec _ _ _ _ _ _ _) ?k1a100c3 ?k2a100c3 ?k3a100c3 ?k4a100c3 ?k5a100c3 ?kKa100c3 ?kda100c3 ?kua100c3 ?kpa100c3 ?_; (case k1a100c3 => k_asm); (case k2a100c3 => k_asm); (case k3a100c3 => k_asm); (case k4a100c3 => k_asm); (case k5a100c3 => k_asm); (case kKa100c3 => first | exact rfl | assumption); (case kda100c3 => first | omega | ktr_room); (case kua100c3 => first | omega | ktr_units); (case kpa100c3 => first | assumption | exact ⟨by decide, mlen_one _ _⟩ | k_extra "pre")); intro t9 h9 tk9 F9 N9; (try dsimp only); (try k_sweep); (try k_fold)))
abbrev lp (y : Int) : Int := if isleap y then 1 else 0
def cy (n : Int) : Int :=
  (n - 1721426) / 146097 * 400 + (n - 1721426) % 146097 / 36524 * 100 + (n - 1721426) % 146097 % 36524 / 1461 * 4 + (n - 1721426) % 146097 % 36524 % 1461 / 365
    + (if (n - 1721426) % 146097 / 36524 = 4 ∨ (n - 1721426) % 146097 % 36524 % 1461 / 365 = 4 then 0 else 1)
def yday (n : Int) : Int := n - gjd (cy n) 1 1
def madj (l : Bool) (k : Int) : Int := if k < 58 + (if l then 1 else 0) then 0 else if l then 1 else 2
def cm (n : Int) : Int := ((yday n + madj (isleap (cy n)) (yday n)) * 12 + 373) / 367
def cd (n : Int) : Int := n - gjd (cy n) (cm n) 1 + 1
def cy0 (n : Int) : Int := (n - 1721426) / 146097 * 400 + (n - 1721426) % 146097 / 36524 * 100 + (n - 1721426) % 146097 % 36524 / 1461 * 4 + (n - 1721426) % 146097 % 36524 % 1461 / 365
theorem cy_a {n : Int} (h : (n - 1721426) % 146097 / 36524 = 4) : cy0 n = cy n := by rw [cy, if_pos (.inl h), Int.add_zero]; rfl
theorem cy_b {n : Int} (h : (n - 1721426) % 146097 % 36524 % 1461 / 365 = 4) : cy0 n = cy n := by rw [cy, if_pos (.inr h), Int.add_zero]; rfl
theorem cy_c {n : Int} (h : (n - 1721426) % 146097 / 36524 ≠ 4) (h' : (n - 1721426) % 146097 % 36524 % 1461 / 365 ≠ 4) : cy0 n + 1 = cy n := by rw [cy, if_neg (fun e => e.elim h h')]; rfl
theorem madj_a {l : Bool} {k : Int} (h : k < 58 + if l = true then 1 else 0) : 0 = madj l k := by rw [madj, if_pos h]
theorem madj_b {l : Bool} {k : Int} (h : ¬ k < 58 + if l = true then 1 else 0) (hl : l = true) : 1 = madj l k := by rw [madj, if_neg h, if_pos hl]
theorem madj_c {l : Bool} {k : Int} (h : ¬ k < 58 + if l = true then 1 else 0) (hl : l = false) : 2 = madj l k := by subst hl; rw [madj, if_neg h]; rfl
theorem from_jd_spec (news) (n : Int) (t1 : Tok) : Call1 w loose mean mg mb 4 107 news [.int n t1] True (Ret3 (cy n) (cm n) (cd n)) := by
  refine unwrap ?_
  simp (disch := k_dflt (
    k_with_none
    k_with "gl" => first | exact gl_EPOCH_gregorian _ | exact gl_INTERCALATION_CYCLE_DAYS _ | exact gl_LEAP_SUPPRESSION_DAYS _ | exact gl_LEAP_CYCLE_DAYS_gregorian _ | exact gl_YEAR_DAYS _ | exact gl_isleap _ | exact gl_to_jd_gregorian _ | exact gl_LEAP_CYCLE_YEARS_gregorian _ | exact gl_INTERCALATION_CYCLE_YEARS _ | exact gl_LEAP_SUPPRESSION_YEARS _
    k_with "gb" => first | exact gb_int _
    dsimp only [Call1]
    intro dp un gd cn cs aF ccd cl outer A₀ base h₀ L mp s Q E B F X N T hk hdp hun hpre hret
    refine wpAny_call ?_
    k_dflt cell_enter
    (rename Fr _ _ _ _ => FE)
    (refine' startP (l' := [(Str.ofString "jd", .int n t1)]) ?cs ?nd FE ?e ?S ?_)
    (case cs => (first | (dsimp only; done) | rfl))
    (case nd => kernel_rfl!)
    (case e => kernel_rfl!)
    (case S => with_reducible (apply Sts.cons; apply Sts.nil; (repeat (first | exact Nones.nil | apply Nones.cons)); (all_goals (repeat (first | exact St.here | apply St.there)))))
    (clear FE; intro hnd FE tk0; (try k_fold))
    k_with "cut" => ((with_reducible show wpAny _ _ (execs (Stmt.If _ _ _ ⟨77, _, _, _⟩ :: _) _) _ _ _); (rename Fr _ _ _ _ => zF); (rename News _ _ _ _ => zN); k_dflt (refine' cut1 "year" (cy n) (by assumption) zF zN ?zs1 ?_ ?_); (case zs1 => (intro t; with_reducible (repeat (first | exact St.here | apply St.there)))); (all_goals (intros; (try k_sweep); (try k_fold))))
    k_with "cut" => ((with_reducible show wpAny _ _ (execs (Stmt.If _ _ _ ⟨81, _, _, _⟩ :: _) _) _ _ _); (rename Fr _ _ _ _ => zF); (rename News _ _ _ _ => zN); k_dflt (refine' cut1 "leap_adj" (madj (isleap (cy n)) (yday n)) (by assumption) zF zN ?zs1 ?_ ?_); (case zs1 => (intro t; with_reducible (repeat (first | exact St.here | apply St.there)))); (all_goals (intros; (try k_sweep); (try k_fold))))
    k_with "cuteq" => first
      | exact madj_a (by assumption) | exact madj_b (by assumption) (by assumption) | exact madj_c (by assumption) (by assumption)
      | exact cy_a (by assumption) | exact cy_b (by assumption) | exact cy_c (by assumption) (by assumption)
    k_steps
    all_goals (refine' end3 hret ?q7a ?q7b ?q7c ?q7f ?q7n ?q7m ?q7s ?q7l; (case q7f => k_asm); (case q7n => k_asm); (case q7m => k_mem); (case q7s => (first | exact fun _ h => h | exact fun _ h => .tail _ h | exact fun _ h => .tail _ (.tail _ h) | exact fun _ h => .tail _ (.tail _ (.tail _ h)) | exact fun _ h => .tail _ (.tail _ (.tail _ (.tail _ h))) | exact fun _ h => .tail _ (.tail _ (.tail _ (.tail _ (.tail _ h)))) | (intro p9 hp9; repeat (first | exact hp9 | refine List.Mem.tail _ ?_)))); (case q7l => (first | assumption | k_extra "lt" | exact allLt_of (by assumption) | exact And.right (by assumption) | (simp only [AllLt, and_true] at *; first | assumption | exact allLt_of (by assumption) | exact And.right (by assumption) | (simp_all; done)))); (case q7a => (rfl)); (case q7b => (rfl)); (case q7c => (rfl))))) only [↓wrap_true]
local macro_rules | `(tactic| walk_at "call ref") => `(tactic| (k_here; (with_reducible show wpAny _ _ (call (Value.ref 107) _) _ _ _); k_dflt (refine' use1 (from_jd_spec _ _ _) ?k1a107c4 ?k2a107c4 ?k3a107c4 ?k4a107c4 ?k5a107c4 ?kKa107c4 ?kda107c4 ?kua107c4 ?kpa107c4 ?_; (case k1a107c4 => k_asm); (case k2a107c4 => k_asm); (case k3a107c4 => k_asm); (case k4a107c4 => k_asm); (case k5a107c4 => k_asm); (case kKa107c4 => first | exact rfl | assumption); (case kda107c4 => first | omega | ktr_room); (case kua107c4 => first | omega | ktr_units); (case kpa107c4 => first | trivial | assumption | omega | (constructor <;> omega) | k_extra "pre")); intro D9 t91 t92 t93 c9 h9 tk9 F9 N9 l9; (try simp only [AllLt, and_true] at l9); (try dsimp only); (try k_sweep); (try k_fold)))

-- A2
def thr : List Int → Int → Int → Int × Int
  | [], m, c => (m, c)
  | z :: r, m, c => if c < z then (m, c) else thr r (m + 1) (c - z)
def TInv (zs : List Int) (c0 c m : Int) : Prop := 1 ≤ m ∧ m ≤ zs.length ∧ 0 ≤ c ∧ c < (zs.drop (m - 1).toNat).sum ∧ thr (zs.drop (m - 1).toNat) m c = thr zs 1 c0
theorem tinv_split {zs : List Int} {c0 c m : Int} (h : TInv zs c0 c m) : zs.drop (m - 1).toNat = zs.getD (m - 1).toNat 0 :: zs.drop m.toNat := by
  obtain ⟨h1, h2, _⟩ := h
  have e : m.toNat = (m - 1).toNat + 1 := by omega
  rw [e, List.drop_eq_getElem_cons (by omega), List.getD_eq_getElem?_getD, List.getElem?_eq_getElem (by omega)]
  rfl
theorem tinv_start {zs : List Int} {c : Int} (h : 0 ≤ c ∧ c < zs.sum) : TInv zs c c 1 := by
  refine ⟨by omega, ?_, h.1, ?_, ?_⟩
  · cases zs with
    | nil => simp at h; omega
    | cons z r => simp only [List.length_cons]; omega
  · simpa using h.2
  · simp
theorem tinv_turn {zs : List Int} {c0 c m : Int} (h : TInv zs c0 c m) (hc : zs.getD (m - 1).toNat 0 ≤ c) : TInv zs c0 (c - zs.getD (m - 1).toNat 0) (m + 1) := by
  have e := tinv_split h
  obtain ⟨h1, h2, h3, h4, h5⟩ := h
  rw [e] at h4 h5
  rw [List.sum_cons] at h4
  rw [thr, if_neg (by omega)] at h5
  have e2 : (m + 1 - 1).toNat = m.toNat := by omega
  refine ⟨by omega, ?_, by omega, by rw [e2]; omega, by rw [e2]; exact h5⟩
  rcases Nat.lt_or_ge m.toNat zs.length with hn | hn
  · omega
  · rw [List.drop_eq_nil_of_le hn, List.sum_nil] at h4
    omega
theorem tinv_exit {zs : List Int} {c0 c m : Int} (h : TInv zs c0 c m) (hc : c < zs.getD (m - 1).toNat 0) : thr zs 1 c0 = (m, c) := by
  have e := tinv_split h
  obtain ⟨h1, h2, h3, h4, h5⟩ := h
  rw [e, thr, if_pos hc] at h5
  exact h5.symm
def dys (y : Int) : Int := if isleap y then 366 else 365
theorem dys_spec (news) (y : Int) (t : Tok) : Call1 w loose mean mg mb 1 500 news [.int y t] True (RetI (dys y)) := by
  refine unwrap ?_
  simp (disch := k_dflt (
    k_with_none
    dsimp only [Call1]
    intro dp un gd cn cs aF ccd cl outer A₀ base h₀ L mp s Q E B F X N T hk hdp hun hpre hret
    refine wpAny_call ?_
    k_dflt cell_enter
    (rename Fr _ _ _ _ => FE)
    (refine' startP (l' := [(Str.ofString "year", .int y t)]) ?cs ?nd FE ?e ?S ?_)
    (case cs => (first | (dsimp only; done) | rfl))
    (case nd => kernel_rfl!)
    (case e => kernel_rfl!)
    (case S => with_reducible (apply Sts.cons; apply Sts.nil; (repeat (first | exact Nones.nil | apply Nones.cons)); (all_goals (repeat (first | exact St.here | apply St.there)))))
    (clear FE; intro hnd FE tk0; (try k_fold))
    k_steps
    all_goals (refine' endI hret ?q7a ?q7f ?q7n ?q7s; (case q7f => k_asm); (case q7n => k_asm); (case q7s => (first | exact fun _ h => h | exact fun _ h => .tail _ h | exact fun _ h => .tail _ (.tail _ h) | exact fun _ h => .tail _ (.tail _ (.tail _ h)) | exact fun _ h => .tail _ (.tail _ (.tail _ (.tail _ h))) | exact fun _ h => .tail _ (.tail _ (.tail _ (.tail _ (.tail _ h)))) | (intro p9 hp9; repeat (first | exact hp9 | refine List.Mem.tail _ ?_)))); (case q7a => ((unfold dys; rw [isleap_eq]; first | (simp_all; done) | (simp_all; omega))))))) only [↓wrap_true]
local macro_rules | `(tactic| walk_at "call ref") => `(tactic| (k_here; (with_reducible show wpAny _ _ (call (Value.ref 500) _) _ _ _); k_dflt (refine' use1 (dys_spec _ _ _) ?k1a500c5 ?k2a500c5 ?k3a500c5 ?k4a500c5 ?k5a500c5 ?kKa500c5 ?kda500c5 ?kua500c5 ?kpa500c5 ?_; (case k1a500c5 => k_asm); (case k2a500c5 => k_asm); (case k3a500c5 => k_asm); (case k4a500c5 => k_asm); (case k5a500c5 => k_asm); (case kKa500c5 => first | exact rfl | assumption); (case kda500c5 => first | omega | ktr_room); (case kua500c5 => first | omega | ktr_units); (case kpa500c5 => first | trivial | assumption | omega | (constructor <;> omega) | k_extra "pre")); intro t9 h9 tk9 F9 N9; (try dsimp only); (try k_sweep); (try k_fold)))
theorem through_spec (news) (D : Addr) (o : Obj) (zs : List Int) (y c : Int) (t1 t2 : Tok) (hm : (D, o) ∈ news) (ho : SeqI o zs) (hl : zs.length < 20) :
    Call1 w loose mean mg mb 1 507 news [.int y t1, .int c t2, .ref D] (0 ≤ c ∧ c < zs.sum) (Ret3 y (thr zs 1 c).1 ((thr zs 1 c).2 + 1)) := by
  refine unwrap ?_
  simp (disch := k_dflt (
    k_with_none
    dsimp only [Call1]
    intro dp un gd cn cs aF ccd cl outer A₀ base h₀ L mp s Q E B F X N T hk hdp hun hpre hret
    refine wpAny_call ?_
    k_dflt cell_enter
    (rename Fr _ _ _ _ => FE)
    (refine' startP (l' := [(Str.ofString "sizes", .ref D), (Str.ofString "count", .int c t2), (Str.ofString "year", .int y t1)]) ?cs ?nd FE ?e ?S ?_)
    (case cs => (first | (dsimp only; done) | rfl))
    (case nd => kernel_rfl!)
    (case e => kernel_rfl!)
    (case S => with_reducible (apply Sts.cons; apply Sts.cons; apply Sts.cons; apply Sts.nil; (repeat (first | exact Nones.nil | apply Nones.cons)); (all_goals (repeat (first | exact St.here | apply St.there)))))
    (clear FE; intro hnd FE tk0; (try k_fold))
    k_with "subscriptTail Name BinOp ref int" => (k_dflt (refine' sub_seqI ?zu1 ?zu2 ?zu3 ?zu4 ?_); (case zu1 => k_asm); (case zu2 => assumption); (case zu3 => assumption); (case zu4 => ((rename TInv _ _ _ _ => hI); unfold TInv at hI; omega)); intro t9)
    k_with "while" => ((with_reducible show wpAny _ _ (execs (Stmt.While _ _ _ ⟨642, _, _, _⟩ :: _) _) _ _ _); (rename Fr _ _ _ _ => zF); (rename News _ _ _ _ => zN); k_dflt (refine' while2 "count" "month" (fun c' m => TInv zs c c' m) (fun _ m => (20 - m).toNat) (fun c' m => thr zs 1 c = (m, c')) (by assumption) zF zN ?zwa0 ?zwb0 ?zwa1 ?zwb1 ?zwi ?_ ?_); (case zwa0 => with_reducible (repeat (first | exact At.here | refine At.there ?_))); (case zwb0 => (intros; with_reducible (repeat (first | exact St.here | apply St.there)))); (case zwa1 => with_reducible (repeat (first | exact At.here | refine At.there ?_))); (case zwb1 => (intros; with_reducible (repeat (first | exact St.here | apply St.there)))); (case zwi => (exact tinv_start hpre)); (all_goals (clear zF zN; intros; (try dsimp only at *); (try k_fold))))
    k_with "inv" => exact tinv_turn (by assumption) (by assumption)
    k_with "meas" => ((rename TInv _ _ _ _ => hI); unfold TInv at hI; omega)
    k_with "exit" => exact tinv_exit (by assumption) (by omega)
    k_steps
    all_goals (refine' end3 hret ?q7a ?q7b ?q7c ?q7f ?q7n ?q7m ?q7s ?q7l; (case q7f => k_asm); (case q7n => k_asm); (case q7m => k_mem); (case q7s => (first | exact fun _ h => h | exact fun _ h => .tail _ h | exact fun _ h => .tail _ (.tail _ h) | exact fun _ h => .tail _ (.tail _ (.tail _ h)) | exact fun _ h => .tail _ (.tail _ (.tail _ (.tail _ h))) | exact fun _ h => .tail _ (.tail _ (.tail _ (.tail _ (.tail _ h)))) | (intro p9 hp9; repeat (first | exact hp9 | refine List.Mem.tail _ ?_)))); (case q7l => (first | assumption | k_extra "lt" | exact allLt_of (by assumption) | exact And.right (by assumption) | (simp only [AllLt, and_true] at *; first | assumption | exact allLt_of (by assumption) | exact And.right (by assumption) | (simp_all; done)))); (case q7a => (first | rfl | simp only [(by assumption : thr zs 1 c = (_, _))])); (case q7b => (first | rfl | simp only [(by assumption : thr zs 1 c = (_, _))])); (case q7c => (first | rfl | simp only [(by assumption : thr zs 1 c = (_, _))]))))) only [↓wrap_true]
local macro_rules | `(tactic| walk_at "call ref") => `(tactic| (k_here; (with_reducible show wpAny _ _ (call (Value.ref 507) _) _ _ _); k_dflt (refine' use1 (through_spec _ _ _ _ _ _ _ _ ?hma507 ?hmb507 ?hmc507) ?k1a507 ?k2a507 ?k3a507 ?k4a507 ?k5a507 ?kKa507 ?kda507 ?kua507 ?kpa507 ?_; (case k1a507 => k_asm); (case k2a507 => k_asm); (case k3a507 => k_asm); (case k4a507 => k_asm); (case k5a507 => k_asm); (case kKa507 => first | exact rfl | assumption); (case kda507 => first | omega | ktr_room); (case kua507 => first | omega | ktr_units); (case hma507 => k_mem); (case hmb507 => first | exact seq_tup (by assumption) | exact seq_tup (by repeat constructor) | exact seq_lst (by assumption) | exact seq_lst (by repeat constructor)); (case hmc507 => simp); (case kpa507 => k_extra "pre")); intro D9 t91 t92 t93 c9 h9 tk9 F9 N9 l9; (try simp only [AllLt, and_true] at l9); (try dsimp only); (try k_sweep); (try k_fold)))

-- P1
-- the Gregorian calendar, in plain numbers
theorem isleap_iff (y : Int) : isleap y = true ↔ (y % 4 = 0 ∧ (y % 100 ≠ 0 ∨ y % 400 = 0)) := by
  rw [isleap_eq]; simp
theorem isleap_not (y : Int) : isleap y = false ↔ ¬ (y % 4 = 0 ∧ (y % 100 ≠ 0 ∨ y % 400 = 0)) := by
  rw [← isleap_iff]; simp
theorem dys_cases (y : Int) : (isleap y = true ∧ dys y = 366 ∧ lp y = 1) ∨ (isleap y = false ∧ dys y = 365 ∧ lp y = 0) := by
  unfold dys lp
  cases isleap y <;> simp
def jan1 (y : Int) : Int := 1721426 + 365 * (y - 1) + (y - 1) / 4 - (y - 1) / 100 + (y - 1) / 400
theorem gjd_jan1 (y : Int) : gjd y 1 1 = jan1 y := by unfold gjd gadj jan1; simp; omega
theorem jan1_next (y : Int) : jan1 (y + 1) = jan1 y + dys y := by
  unfold jan1
  rcases dys_cases y with ⟨h, e, _⟩ | ⟨h, e, _⟩
  · rw [isleap_iff] at h; omega
  · rw [isleap_not] at h; omega
theorem jan1_lt {y z : Int} (h : y < z) : jan1 y + 365 ≤ jan1 z := by unfold jan1; omega
theorem jan1_next_le {y z : Int} (h : y < z) : jan1 y + dys y ≤ jan1 z := by
  rw [← jan1_next]
  rcases Int.lt_or_eq_of_le (show y + 1 ≤ z by omega) with h | h
  · have := jan1_lt h; omega
  · rw [h]; omega
theorem jan1_only {y z n : Int} (h1 : jan1 y ≤ n) (h2 : n < jan1 y + dys y) (h3 : jan1 z ≤ n) (h4 : n < jan1 z + dys z) : y = z := by
  rcases Int.lt_trichotomy y z with h | h | h
  · have := jan1_next_le h; omega
  · exact h
  · have := jan1_next_le h; omega
theorem cy_key {n Y q c k i r : Int} (h1 : 0 ≤ c) (h2 : c ≤ 3) (h3 : 0 ≤ k) (h4 : k ≤ 24) (h5 : 0 ≤ i) (h6 : i ≤ 3) (h7 : 0 ≤ r) (h8 : n - 1721426 = 146097 * q + 36524 * c + 1461 * k + 365 * i + r)
    (h9 : r < 365 ∨ (r = 365 ∧ i = 3 ∧ (k ≠ 24 ∨ c = 3))) (e : Y = 400 * q + 100 * c + 4 * k + i + 1) : jan1 Y ≤ n ∧ n < jan1 Y + dys Y := by
  have e4 : (Y - 1) / 4 = 100 * q + 25 * c + k := by omega
  have e100 : (Y - 1) / 100 = 4 * q + c := by omega
  have e400 : (Y - 1) / 400 = q := by omega
  have ej : jan1 Y = n - r := by unfold jan1; rw [e4, e100, e400]; omega
  rw [ej]
  refine ⟨by omega, ?_⟩
  rcases dys_cases Y with ⟨_, e', _⟩ | ⟨h, e', _⟩
  · omega
  · rw [isleap_not] at h
    rcases h9 with h9 | ⟨h9, hi, hk⟩
    · omega
    · exfalso
      clear e' ej e4 e100 e400 h7 h8 h9
      subst hi
      apply h
      refine ⟨by omega, ?_⟩
      by_cases h24 : k = 24
      · have hc : c = 3 := by omega
        subst hc h24
        exact .inr (by omega)
      · exact .inl (by omega)
theorem cy_in (n : Int) : jan1 (cy n) ≤ n ∧ n < jan1 (cy n) + dys (cy n) := by
  have b1 := Int.emod_nonneg (n - 1721426) (show (146097 : Int) ≠ 0 by decide)
  have b2 := Int.emod_lt_of_pos (n - 1721426) (show (0 : Int) < 146097 by decide)
  have b3 := Int.mul_ediv_add_emod (n - 1721426) 146097
  have e : cy n = (n - 1721426) / 146097 * 400 + (n - 1721426) % 146097 / 36524 * 100 + (n - 1721426) % 146097 % 36524 / 1461 * 4 + (n - 1721426) % 146097 % 36524 % 1461 / 365
    + (if (n - 1721426) % 146097 / 36524 = 4 ∨ (n - 1721426) % 146097 % 36524 % 1461 / 365 = 4 then 0 else 1) := rfl
  generalize (n - 1721426) / 146097 = q at b3 e
  generalize (n - 1721426) % 146097 = r1 at b1 b2 b3 e
  by_cases hc : r1 / 36524 = 4
  · rw [if_pos (.inl hc)] at e
    exact cy_key (q := q) (c := 3) (k := 24) (i := 3) (r := 365) (by omega) (by omega) (by omega) (by omega) (by omega) (by omega) (by omega) (by omega) (.inr ⟨rfl, rfl, .inr rfl⟩) (by omega)
  · by_cases hi : r1 % 36524 % 1461 / 365 = 4
    · rw [if_pos (.inr hi)] at e
      exact cy_key (q := q) (c := r1 / 36524) (k := r1 % 36524 / 1461) (i := 3) (r := 365) (by omega) (by omega) (by omega) (by omega) (by omega) (by omega) (by omega) (by omega) (.inr ⟨rfl, rfl, .inl (by omega)⟩) (by omega)
    · rw [if_neg (by rintro (h | h) <;> contradiction)] at e
      exact cy_key (q := q) (c := r1 / 36524) (k := r1 % 36524 / 1461) (i := r1 % 36524 % 1461 / 365) (r := r1 % 36524 % 1461 % 365) (by omega) (by omega) (by omega) (by omega) (by omega) (by omega) (by omega) (by omega) (.inl (by omega)) (by omega)
-- the months
def moff (l : Bool) (m : Int) : Int := (367 * m - 362) / 12 + (if m ≤ 2 then 0 else if l then -1 else -2)
def mlenl (l : Bool) (m : Int) : Int := if m = 2 then (if l then 29 else 28) else if m = 4 ∨ m = 6 ∨ m = 9 ∨ m = 11 then 30 else 31
theorem mlen_l (y m : Int) : mlen y m = mlenl (isleap y) m := rfl
theorem twelve {m : Int} (h1 : 1 ≤ m) (h2 : m ≤ 12) : m = 1 ∨ m = 2 ∨ m = 3 ∨ m = 4 ∨ m = 5 ∨ m = 6 ∨ m = 7 ∨ m = 8 ∨ m = 9 ∨ m = 10 ∨ m = 11 ∨ m = 12 := by omega
theorem month_back (l : Bool) {m d : Int} (h1 : 1 ≤ m) (h2 : m ≤ 12) (h3 : 1 ≤ d) (h4 : d ≤ mlenl l m) :
    0 ≤ moff l m + d - 1 ∧ moff l m + d - 1 < 365 + (if l then 1 else 0) ∧ ((moff l m + d - 1 + madj l (moff l m + d - 1)) * 12 + 373) / 367 = m := by
  unfold mlenl at h4
  unfold moff madj
  cases l <;> rcases twelve h1 h2 with h | h | h | h | h | h | h | h | h | h | h | h <;> subst h <;> simp at h4 ⊢ <;> refine ⟨by omega, by omega, ?_⟩ <;> (repeat' split) <;> omega
theorem month_fwd (l : Bool) {k : Int} (h1 : 0 ≤ k) (h2 : k < 365 + (if l then 1 else 0)) :
    1 ≤ ((k + madj l k) * 12 + 373) / 367 ∧ ((k + madj l k) * 12 + 373) / 367 ≤ 12 ∧ 0 ≤ k - moff l (((k + madj l k) * 12 + 373) / 367) ∧ k - moff l (((k + madj l k) * 12 + 373) / 367) < mlenl l (((k + madj l k) * 12 + 373) / 367) := by
  obtain ⟨n, rfl⟩ : ∃ n : Nat, k = (n : Int) := ⟨k.toNat, by omega⟩
  have hn : n < 366 := by cases l <;> simp at h2 <;> omega
  have key : ∀ l : Bool, ∀ n : Nat, n < 366 → (n : Int) < 365 + (if l then 1 else 0) → 1 ≤ (((n : Int) + madj l n) * 12 + 373) / 367 ∧ (((n : Int) + madj l n) * 12 + 373) / 367 ≤ 12 ∧ 0 ≤ (n : Int) - moff l ((((n : Int) + madj l n) * 12 + 373) / 367) ∧ (n : Int) - moff l ((((n : Int) + madj l n) * 12 + 373) / 367) < mlenl l ((((n : Int) + madj l n) * 12 + 373) / 367) := by
    decide +kernel
  exact key l n hn h2
theorem gjd_off (y m d : Int) : gjd y m d = jan1 y + moff (isleap y) m + d - 1 := by unfold gjd jan1 moff gadj; omega
def legal (y m d : Int) : Prop := 1 ≤ m ∧ m ≤ 12 ∧ 1 ≤ d ∧ d ≤ mlen y m
theorem dys_l (y : Int) : dys y = 365 + (if isleap y then 1 else 0) := by unfold dys; split <;> rfl
theorem yday_eq (n : Int) : yday n = n - jan1 (cy n) := by unfold yday; rw [gjd_jan1]
theorem civ_legal (n : Int) : legal (cy n) (cm n) (cd n) := by
  have h := cy_in n
  have hk := month_fwd (isleap (cy n)) (k := yday n) (by rw [yday_eq]; omega) (by rw [yday_eq, ← dys_l]; omega)
  have e : cd n = yday n - moff (isleap (cy n)) (cm n) + 1 := by
    show n - gjd (cy n) (cm n) 1 + 1 = _
    rw [gjd_off, yday_eq]; omega
  have em : cm n = ((yday n + madj (isleap (cy n)) (yday n)) * 12 + 373) / 367 := rfl
  rw [← em] at hk
  exact ⟨hk.1, hk.2.1, by omega, by rw [mlen_l]; omega⟩
theorem civ_day (n : Int) : gjd (cy n) (cm n) (cd n) = n := by
  rw [gjd_off]
  show _ + (n - gjd (cy n) (cm n) 1 + 1) - 1 = n
  rw [gjd_off]; omega
theorem legal_in {y m d : Int} (h : legal y m d) : jan1 y ≤ gjd y m d ∧ gjd y m d < jan1 y + dys y := by
  obtain ⟨h1, h2, h3, h4⟩ := h
  have := month_back (isleap y) h1 h2 h3 (by rw [← mlen_l]; exact h4)
  rw [gjd_off, dys_l]
  omega
theorem civ_only {y m d n : Int} (h : legal y m d) (e : gjd y m d = n) : cy n = y ∧ cm n = m ∧ cd n = d := by
  have h1 := legal_in h
  rw [e] at h1
  have hy : cy n = y := jan1_only (cy_in n).1 (cy_in n).2 h1.1 h1.2
  obtain ⟨g1, g2, g3, g4⟩ := h
  have hb := month_back (isleap y) g1 g2 g3 (by rw [← mlen_l]; exact g4)
  have hk : yday n = moff (isleap y) m + d - 1 := by rw [yday_eq, hy, ← e, gjd_off]; omega
  have hm : cm n = m := by
    show ((yday n + madj (isleap (cy n)) (yday n)) * 12 + 373) / 367 = m
    rw [hy, hk]
    exact hb.2.2
  refine ⟨hy, hm, ?_⟩
  show n - gjd (cy n) (cm n) 1 + 1 = d
  rw [hy, hm, ← e, gjd_off, gjd_off]; omega

section

-- A3
def CI1 (c0 c y : Int) : Prop := ∃ j : Int, 0 ≤ j ∧ j ≤ 3 ∧ y = 400 * (c0 / 146097) + 1 + 100 * j ∧ c = c0 % 146097 - 36524 * j ∧ 0 ≤ c
def CX1 (c0 c y : Int) : Prop := ∃ j : Int, 0 ≤ j ∧ j ≤ 3 ∧ y = 400 * (c0 / 146097) + 1 + 100 * j ∧ c = c0 % 146097 - 36524 * j ∧ 0 ≤ c ∧ (c < 36524 ∨ (j = 3 ∧ c < 36525))
def CI2 (c0 c y : Int) : Prop := ∃ j k : Int, 0 ≤ j ∧ j ≤ 3 ∧ 0 ≤ k ∧ y = 400 * (c0 / 146097) + 1 + 100 * j + 4 * k ∧ c = c0 % 146097 - 36524 * j - 1461 * k ∧ 0 ≤ c ∧ (c + 1461 * k < 36524 ∨ (j = 3 ∧ c + 1461 * k < 36525))
def CI3 (c0 c y : Int) : Prop := ∃ j k i : Int, 0 ≤ j ∧ j ≤ 3 ∧ 0 ≤ k ∧ 0 ≤ i ∧ i ≤ 3 ∧ y = 400 * (c0 / 146097) + 1 + 100 * j + 4 * k + i ∧ c = c0 % 146097 - 36524 * j - 1461 * k - 365 * i ∧ 0 ≤ c ∧ c + 365 * i < 1461 ∧ (c + 365 * i + 1461 * k < 36524 ∨ (j = 3 ∧ c + 365 * i + 1461 * k < 36525))
def CX3 (c0 c y : Int) : Prop := 0 ≤ c ∧ c < dys y ∧ jan1 y + c = c0 + 1721426
theorem ci1_start (c : Int) : CI1 c (c % 146097) (400 * (c / 146097) + 1) := ⟨0, by omega, by omega, by omega, by omega, by omega⟩
theorem ci1_turn1 {c0 c y : Int} (h : CI1 c0 c y) (h1 : y % 400 = 301) (h2 : 36525 ≤ c) : CI1 c0 (c - 36524) (y + 100) := by
  obtain ⟨j, a1, a2, a3, a4, a5⟩ := h
  exact absurd h2 (by omega)
theorem ci1_turn2 {c0 c y : Int} (h : CI1 c0 c y) (h1 : y % 400 ≠ 301) (_h2 : 36524 ≤ c) : CI1 c0 (c - 36524) (y + 100) := by
  obtain ⟨j, a1, a2, a3, a4, a5⟩ := h
  exact ⟨j + 1, by omega, by omega, by omega, by omega, by omega⟩
theorem ci1_exit1 {c0 c y : Int} (h : CI1 c0 c y) (h1 : y % 400 = 301) (h2 : ¬ 36525 ≤ c) : CX1 c0 c y := by
  obtain ⟨j, a1, a2, a3, a4, a5⟩ := h
  exact ⟨j, a1, a2, a3, a4, a5, .inr ⟨by omega, by omega⟩⟩
theorem ci1_exit2 {c0 c y : Int} (h : CI1 c0 c y) (_h1 : y % 400 ≠ 301) (h2 : ¬ 36524 ≤ c) : CX1 c0 c y := by
  obtain ⟨j, a1, a2, a3, a4, a5⟩ := h
  exact ⟨j, a1, a2, a3, a4, a5, .inl (by omega)⟩
theorem ci2_start {c0 c y : Int} (h : CX1 c0 c y) : CI2 c0 c y := by
  obtain ⟨j, a1, a2, a3, a4, a5, a6⟩ := h
  exact ⟨j, 0, a1, a2, by omega, by omega, by omega, a5, by omega⟩
theorem ci2_turn {c0 c y : Int} (h : CI2 c0 c y) (h2 : 1461 ≤ c) : CI2 c0 (c - 1461) (y + 4) := by
  obtain ⟨j, k, a1, a2, a3, a4, a5, a6, a7⟩ := h
  exact ⟨j, k + 1, a1, a2, by omega, by omega, by omega, by omega, by omega⟩
theorem ci2_exit {c0 c y : Int} (h : CI2 c0 c y) (h2 : ¬ 1461 ≤ c) : CI3 c0 c y := by
  obtain ⟨j, k, a1, a2, a3, a4, a5, a6, a7⟩ := h
  exact ⟨j, k, 0, a1, a2, a3, by omega, by omega, by omega, by omega, a6, by omega, by omega⟩
theorem ci3_turn {c0 c y : Int} (h : CI3 c0 c y) (h2 : dys y ≤ c) : CI3 c0 (c - 365) (y + 1) := by
  obtain ⟨j, k, i, a1, a2, a3, a4, a5, a6, a7, a8, a9, a10⟩ := h
  have h3 : i ≠ 3 := by
    rintro rfl
    rcases dys_cases y with ⟨h, e, _⟩ | ⟨h, e, _⟩
    · omega
    · rw [isleap_not] at h
      apply h
      have e4 : y % 4 = 0 := by omega
      refine ⟨e4, ?_⟩
      by_cases hk : k = 24
      · subst hk
        have : j = 3 := by omega
        subst this
        exact .inr (by omega)
      · exact .inl (by omega)
  have h4 : 365 ≤ c := by rcases dys_cases y with ⟨_, e, _⟩ | ⟨_, e, _⟩ <;> omega
  exact ⟨j, k, i + 1, a1, a2, a3, by omega, by omega, by omega, by omega, by omega, by omega, by omega⟩
theorem ci3_exit {c0 c y : Int} (h : CI3 c0 c y) (h2 : ¬ dys y ≤ c) : CX3 c0 c y := by
  obtain ⟨j, k, i, a1, a2, a3, a4, a5, a6, a7, a8, a9, a10⟩ := h
  refine ⟨a8, by omega, ?_⟩
  have e4 : (y - 1) / 4 = 100 * (c0 / 146097) + 25 * j + k := by omega
  have e100 : (y - 1) / 100 = 4 * (c0 / 146097) + j := by omega
  have e400 : (y - 1) / 400 = c0 / 146097 := by omega
  unfold jan1
  rw [e4, e100, e400]
  omega
theorem thr_at : ∀ (zs : List Int) (m c : Int), 0 ≤ c → c < zs.sum → ∃ k : Nat, k < zs.length ∧ (thr zs m c).1 = m + k ∧ (thr zs m c).2 = c - (zs.take k).sum ∧ 0 ≤ (thr zs m c).2 ∧ (thr zs m c).2 < zs.getD k 0
  | [], m, c, h0, h1 => by simp at h1; omega
  | z :: r, m, c, h0, h1 => by
    rw [List.sum_cons] at h1
    by_cases h : c < z
    · exact ⟨0, by simp, by simp [thr, h], by simp [thr, h], by simp [thr, h]; omega, by simp [thr, h]⟩
    · obtain ⟨k, a1, a2, a3, a4, a5⟩ := thr_at r (m + 1) (c - z) (by omega) (by omega)
      have e : thr (z :: r) m c = thr r (m + 1) (c - z) := by rw [thr, if_neg h]
      rw [e]
      refine ⟨k + 1, by simp; omega, by rw [a2]; omega, ?_, a4, ?_⟩
      · rw [a3, List.take_succ_cons, List.sum_cons]; omega
      · rw [List.getD_cons_succ]; exact a5
theorem lt12 {k : Nat} (h : k < 12) : k = 0 ∨ k = 1 ∨ k = 2 ∨ k = 3 ∨ k = 4 ∨ k = 5 ∨ k = 6 ∨ k = 7 ∨ k = 8 ∨ k = 9 ∨ k = 10 ∨ k = 11 := by omega
theorem thr_greg (l : Bool) {f c : Int} (hf : f = if l then 29 else 28) (h0 : 0 ≤ c) (h1 : c < 337 + f) {p : Int × Int} (hp : thr [31, f, 31, 30, 31, 30, 31, 31, 30, 31, 30, 31] 1 c = p) :
    1 ≤ p.1 ∧ p.1 ≤ 12 ∧ 0 ≤ p.2 ∧ p.2 < mlenl l p.1 ∧ moff l p.1 + p.2 = c := by
  obtain ⟨k, a1, a2, a3, a4, a5⟩ := thr_at [31, f, 31, 30, 31, 30, 31, 31, 30, 31, 30, 31] 1 c h0 (by simp; omega)
  rw [hp] at a2 a3 a4 a5
  obtain ⟨p1, p2⟩ := p
  dsimp only at a2 a3 a4 a5 ⊢
  clear hp
  cases l <;> simp only [Bool.false_eq_true, if_false, if_true] at hf <;> subst hf <;> rcases lt12 a1 with h | h | h | h | h | h | h | h | h | h | h | h <;> subst h <;> simp at a2 a3 a5 <;> subst a2 <;> simp [mlenl, moff] <;> omega
theorem thr_civil {c0 c y : Int} (h : CX3 c0 c y) {p : Int × Int} (hp : thr [31, dys y - 337, 31, 30, 31, 30, 31, 31, 30, 31, 30, 31] 1 c = p) :
    cy (c0 + 1721426) = y ∧ cm (c0 + 1721426) = p.1 ∧ cd (c0 + 1721426) = p.2 + 1 := by
  obtain ⟨a1, a2, a3⟩ := h
  have q := thr_greg (isleap y) (f := dys y - 337) (c := c) (by unfold dys; split <;> rfl) a1 (by omega) hp
  obtain ⟨q1, q2, q3, q4, q5⟩ := q
  refine civ_only ⟨q1, q2, by omega, by rw [mlen_l]; omega⟩ ?_
  rw [gjd_off]
  omega
theorem civil_spec (news) (c : Int) (t1 : Tok) : Call1 w loose mean mg mb 2 514 news [.int c t1] True (Ret3 (cy (c + 1721426)) (cm (c + 1721426)) (cd (c + 1721426))) := by
  refine unwrap ?_
  simp (disch := k_dflt (
    k_with_none
    k_with "gl" => first | exact gl_law_through _ | exact gl_law_days _ | exact gl_law_sizes _
    k_with "gb" => first | exact gb_divmod _
    dsimp only [Call1]
    intro dp un gd cn cs aF ccd cl outer A₀ base h₀ L mp s Q E B F X N T hk hdp hun hpre hret
    refine wpAny_call ?_
    k_dflt cell_enter
    (rename Fr _ _ _ _ => FE)
    (refine' startP (l' := [(Str.ofString "count", .int c t1)]) ?cs ?nd FE ?e ?S ?_)
    (case cs => (first | (dsimp only; done) | rfl))
    (case nd => kernel_rfl!)
    (case e => kernel_rfl!)
    (case S => with_reducible (apply Sts.cons; apply Sts.nil; (repeat (first | exact Nones.nil | apply Nones.cons)); (all_goals (repeat (first | exact St.here | apply St.there)))))
    (clear FE; intro hnd FE tk0; (try k_fold))
    k_with "while" => ((with_reducible show wpAny _ _ (execs (Stmt.While _ _ _ ⟨649, _, _, _⟩ :: _) _) _ _ _); (rename Fr _ _ _ _ => zF); (rename News _ _ _ _ => zN); k_dflt (refine' while2 "count" "year" (fun c' y => CI1 c c' y) (fun c' _ => c'.toNat) (fun c' y => CX1 c c' y) (by assumption) zF zN ?zwa0 ?zwb0 ?zwa1 ?zwb1 ?zwi ?_ ?_); (case zwa0 => with_reducible (repeat (first | exact At.here | refine At.there ?_))); (case zwb0 => (intros; with_reducible (repeat (first | exact St.here | apply St.there)))); (case zwa1 => with_reducible (repeat (first | exact At.here | refine At.there ?_))); (case zwb1 => (intros; with_reducible (repeat (first | exact St.here | apply St.there)))); (case zwi => (exact ci1_start c)); (all_goals (clear zF zN; intros; (try dsimp only at *); (try k_fold))))
    k_with "while" => ((with_reducible show wpAny _ _ (execs (Stmt.While _ _ _ ⟨652, _, _, _⟩ :: _) _) _ _ _); (rename Fr _ _ _ _ => zF); (rename News _ _ _ _ => zN); k_dflt (refine' while2 "count" "year" (fun c' y => CI2 c c' y) (fun c' _ => c'.toNat) (fun c' y => CI3 c c' y) (by assumption) zF zN ?zwa0 ?zwb0 ?zwa1 ?zwb1 ?zwi ?_ ?_); (case zwa0 => with_reducible (repeat (first | exact At.here | refine At.there ?_))); (case zwb0 => (intros; with_reducible (repeat (first | exact St.here | apply St.there)))); (case zwa1 => with_reducible (repeat (first | exact At.here | refine At.there ?_))); (case zwb1 => (intros; with_reducible (repeat (first | exact St.here | apply St.there)))); (case zwi => (exact ci2_start (by assumption))); (all_goals (clear zF zN; intros; (try dsimp only at *); (try k_fold))))
    k_with "while" => ((with_reducible show wpAny _ _ (execs (Stmt.While _ _ _ ⟨655, _, _, _⟩ :: _) _) _ _ _); (rename Fr _ _ _ _ => zF); (rename News _ _ _ _ => zN); k_dflt (refine' while2 "count" "year" (fun c' y => CI3 c c' y) (fun c' _ => c'.toNat) (fun c' y => CX3 c c' y) (by assumption) zF zN ?zwa0 ?zwb0 ?zwa1 ?zwb1 ?zwi ?_ ?_); (case zwa0 => with_reducible (repeat (first | exact At.here | refine At.there ?_))); (case zwb0 => (intros; with_reducible (repeat (first | exact St.here | apply St.there)))); (case zwa1 => with_reducible (repeat (first | exact At.here | refine At.there ?_))); (case zwb1 => (intros; with_reducible (repeat (first | exact St.here | apply St.there)))); (case zwi => (assumption)); (all_goals (clear zF zN; intros; (try dsimp only at *); (try k_fold))))
    k_with "inv" => first | exact ci3_turn (by assumption) (by assumption) | exact ci2_turn (by assumption) (by assumption) | exact ci1_turn1 (by assumption) (by assumption) (by assumption) | exact ci1_turn2 (by assumption) (by assumption) (by assumption)
    k_with "exit" => first | exact ci3_exit (by assumption) (by assumption) | exact ci2_exit (by assumption) (by assumption) | exact ci1_exit1 (by assumption) (by assumption) (by assumption) | exact ci1_exit2 (by assumption) (by assumption) (by assumption)
    k_with "meas" => first | omega | ((rename CI3 _ _ _ => hI); (have hd := dys_l; obtain ⟨_, _, _, a1, a2, a3, a4, a5, a6, a7, a8, a9, a10⟩ := hI; omega)) | ((rename CI3 _ _ _ => hI); (rename dys _ ≤ _ => hy); (have := (ci3_turn hI hy)); obtain ⟨_, _, _, a1, a2, a3, a4, a5, a6, a7, a8, a9, a10⟩ := this; omega)
    k_with "pre" => ((rename CX3 _ _ _ => hX); obtain ⟨x1, x2, x3⟩ := hX; refine ⟨x1, ?_⟩; simp; omega)
    k_steps
    all_goals (refine' end3 hret ?q7a ?q7b ?q7c ?q7f ?q7n ?q7m ?q7s ?q7l; (case q7f => k_asm); (case q7n => k_asm); (case q7m => k_mem); (case q7s => (first | exact fun _ h => h | exact fun _ h => .tail _ h | exact fun _ h => .tail _ (.tail _ h) | exact fun _ h => .tail _ (.tail _ (.tail _ h)) | exact fun _ h => .tail _ (.tail _ (.tail _ (.tail _ h))) | exact fun _ h => .tail _ (.tail _ (.tail _ (.tail _ (.tail _ h)))) | (intro p9 hp9; repeat (first | exact hp9 | refine List.Mem.tail _ ?_)))); (case q7l => (first | assumption | k_extra "lt" | exact allLt_of (by assumption) | exact And.right (by assumption) | (simp only [AllLt, and_true] at *; first | assumption | exact allLt_of (by assumption) | exact And.right (by assumption) | (simp_all; done)))); (case q7a => (first | exact (thr_civil (by assumption) rfl).1.symm | exact (thr_civil (by assumption) rfl).2.1.symm | exact (thr_civil (by assumption) rfl).2.2.symm)); (case q7b => (first | exact (thr_civil (by assumption) rfl).1.symm | exact (thr_civil (by assumption) rfl).2.1.symm | exact (thr_civil (by assumption) rfl).2.2.symm)); (case q7c => (first | exact (thr_civil (by assumption) rfl).1.symm | exact (thr_civil (by assumption) rfl).2.1.symm | exact (thr_civil (by assumption) rfl).2.2.symm))))) only [↓wrap_true]
local macro_rules | `(tactic| walk_at "call ref") => `(tactic| (k_here; (with_reducible show wpAny _ _ (call (Value.ref 514) _) _ _ _); k_dflt (refine' use1 (civil_spec _ _ _) ?k1a514c6 ?k2a514c6 ?k3a514c6 ?k4a514c6 ?k5a514c6 ?kKa514c6 ?kda514c6 ?kua514c6 ?kpa514c6 ?_; (case k1a514c6 => k_asm); (case k2a514c6 => k_asm); (case k3a514c6 => k_asm); (case k4a514c6 => k_asm); (case k5a514c6 => k_asm); (case kKa514c6 => first | exact rfl | assumption); (case kda514c6 => first | omega | ktr_room); (case kua514c6 => first | omega | ktr_units); (case kpa514c6 => first | trivial | assumption | omega | (constructor <;> omega) | k_extra "pre")); intro D9 t91 t92 t93 c9 h9 tk9 F9 N9 l9; (try simp only [AllLt, and_true] at l9); (try dsimp only); (try k_sweep); (try k_fold)))

-- A4
theorem trunc_eq {a b : Int} (h : 0 ≤ a ∧ 0 < b ∧ b < 1073741824) : ((if a < 0 then -a else a) / if b < 0 then -b else b) = a / b := by rw [if_neg (by omega), if_neg (by omega)]
theorem trunc_no {a b : Int} {P : Prop} (h : 0 ≤ a ∧ 0 < b ∧ b < 1073741824) (hb : (decide (a < 0) == decide (b < 0)) = false) : P := by
  rw [decide_eq_false (by omega), decide_eq_false (by omega)] at hb
  simp at hb
theorem trunc_spec (news) (a b : Int) (t1 t2 : Tok) : Call1 w loose mean mg mb 1 36 news [.int a t1, .int b t2] (0 ≤ a ∧ 0 < b ∧ b < 1073741824) (RetI (a / b)) := by
  refine unwrap ?_
  simp (disch := k_dflt (
    k_with_none
    k_with "gb" => first | exact gb_abs _
    dsimp only [Call1]
    intro dp un gd cn cs aF ccd cl outer A₀ base h₀ L mp s Q E B F X N T hk hdp hun hpre hret
    refine wpAny_call ?_
    k_dflt cell_enter
    (rename Fr _ _ _ _ => FE)
    (refine' startP (l' := [(Str.ofString "b", .int b t2), (Str.ofString "a", .int a t1)]) ?cs ?nd FE ?e ?S ?_)
    (case cs => (first | (dsimp only; done) | rfl))
    (case nd => kernel_rfl!)
    (case e => kernel_rfl!)
    (case S => with_reducible (apply Sts.cons; apply Sts.cons; apply Sts.nil; (repeat (first | exact Nones.nil | apply Nones.cons)); (all_goals (repeat (first | exact St.here | apply St.there)))))
    (clear FE; intro hnd FE tk0; (try k_fold))
    k_steps
    all_goals (refine' endI hret ?q7a ?q7f ?q7n ?q7s; (case q7f => k_asm); (case q7n => k_asm); (case q7s => (first | exact fun _ h => h | exact fun _ h => .tail _ h | exact fun _ h => .tail _ (.tail _ h) | exact fun _ h => .tail _ (.tail _ (.tail _ h)) | exact fun _ h => .tail _ (.tail _ (.tail _ (.tail _ h))) | exact fun _ h => .tail _ (.tail _ (.tail _ (.tail _ (.tail _ h)))) | (intro p9 hp9; repeat (first | exact hp9 | refine List.Mem.tail _ ?_)))); (case q7a => (first | exact trunc_eq hpre | exact trunc_no hpre (by assumption)))))) only [↓wrap_true]
local macro_rules | `(tactic| walk_at "call ref") => `(tactic| (k_here; (with_reducible show wpAny _ _ (call (Value.ref 36) _) _ _ _); k_dflt (refine' use1 (trunc_spec _ _ _ _ _) ?k1a36c7 ?k2a36c7 ?k3a36c7 ?k4a36c7 ?k5a36c7 ?kKa36c7 ?kda36c7 ?kua36c7 ?kpa36c7 ?_; (case k1a36c7 => k_asm); (case k2a36c7 => k_asm); (case k3a36c7 => k_asm); (case k4a36c7 => k_asm); (case k5a36c7 => k_asm); (case kKa36c7 => first | exact rfl | assumption); (case kda36c7 => first | omega | ktr_room); (case kua36c7 => first | omega | ktr_units); (case kpa36c7 => first | omega | k_extra "pre")); intro t9 h9 tk9 F9 N9; (try dsimp only); (try k_sweep); (try k_fold)))
theorem midnight_spec (news) (j : Int) (t1 : Tok) : Call1 w loose mean mg mb 1 43 news [.int j t1] (0 < j) (RetI j) := by
  refine unwrap ?_
  simp (disch := k_dflt (
    k_with_none
    dsimp only [Call1]
    intro dp un gd cn cs aF ccd cl outer A₀ base h₀ L mp s Q E B F X N T hk hdp hun hpre hret
    refine wpAny_call ?_
    k_dflt cell_enter
    (rename Fr _ _ _ _ => FE)
    (refine' startP (l' := [(Str.ofString "jd", .int j t1)]) ?cs ?nd FE ?e ?S ?_)
    (case cs => (first | (dsimp only; done) | rfl))
    (case nd => kernel_rfl!)
    (case e => kernel_rfl!)
    (case S => with_reducible (apply Sts.cons; apply Sts.nil; (repeat (first | exact Nones.nil | apply Nones.cons)); (all_goals (repeat (first | exact St.here | apply St.there)))))
    (clear FE; intro hnd FE tk0; (try k_fold))
    k_steps
    all_goals (refine' endI hret ?q7a ?q7f ?q7n ?q7s; (case q7f => k_asm); (case q7n => k_asm); (case q7s => (first | exact fun _ h => h | exact fun _ h => .tail _ h | exact fun _ h => .tail _ (.tail _ h) | exact fun _ h => .tail _ (.tail _ (.tail _ h)) | exact fun _ h => .tail _ (.tail _ (.tail _ (.tail _ h))) | exact fun _ h => .tail _ (.tail _ (.tail _ (.tail _ (.tail _ h)))) | (intro p9 hp9; repeat (first | exact hp9 | refine List.Mem.tail _ ?_)))); (case q7a => (rfl))))) only [↓wrap_true]
local macro_rules | `(tactic| walk_at "call ref") => `(tactic| (k_here; (with_reducible show wpAny _ _ (call (Value.ref 43) _) _ _ _); k_dflt (refine' use1 (midnight_spec _ _ _) ?k1a43c8 ?k2a43c8 ?k3a43c8 ?k4a43c8 ?k5a43c8 ?kKa43c8 ?kda43c8 ?kua43c8 ?kpa43c8 ?_; (case k1a43c8 => k_asm); (case k2a43c8 => k_asm); (case k3a43c8 => k_asm); (case k4a43c8 => k_asm); (case k5a43c8 => k_asm); (case kKa43c8 => first | exact rfl | assumption); (case kda43c8 => first | omega | ktr_room); (case kua43c8 => first | omega | ktr_units); (case kpa43c8 => first | omega | k_extra "pre")); intro t9 h9 tk9 F9 N9; (try dsimp only); (try k_sweep); (try k_fold)))
theorem jwday_spec (news) (j : Int) (t1 : Tok) : Call1 w loose mean mg mb 1 50 news [.int j t1] True (RetI (j % 7)) := by
  refine unwrap ?_
  simp (disch := k_dflt (
    k_with_none
    dsimp only [Call1]
    intro dp un gd cn cs aF ccd cl outer A₀ base h₀ L mp s Q E B F X N T hk hdp hun hpre hret
    refine wpAny_call ?_
    k_dflt cell_enter
    (rename Fr _ _ _ _ => FE)
    (refine' startP (l' := [(Str.ofString "j", .int j t1)]) ?cs ?nd FE ?e ?S ?_)
    (case cs => (first | (dsimp only; done) | rfl))
    (case nd => kernel_rfl!)
    (case e => kernel_rfl!)
    (case S => with_reducible (apply Sts.cons; apply Sts.nil; (repeat (first | exact Nones.nil | apply Nones.cons)); (all_goals (repeat (first | exact St.here | apply St.there)))))
    (clear FE; intro hnd FE tk0; (try k_fold))
    k_steps
    all_goals (refine' endI hret ?q7a ?q7f ?q7n ?q7s; (case q7f => k_asm); (case q7n => k_asm); (case q7s => (first | exact fun _ h => h | exact fun _ h => .tail _ h | exact fun _ h => .tail _ (.tail _ h) | exact fun _ h => .tail _ (.tail _ (.tail _ h)) | exact fun _ h => .tail _ (.tail _ (.tail _ (.tail _ h))) | exact fun _ h => .tail _ (.tail _ (.tail _ (.tail _ (.tail _ h)))) | (intro p9 hp9; repeat (first | exact hp9 | refine List.Mem.tail _ ?_)))); (case q7a => (rfl))))) only [↓wrap_true]
local macro_rules | `(tactic| walk_at "call ref") => `(tactic| (k_here; (with_reducible show wpAny _ _ (call (Value.ref 50) _) _ _ _); k_dflt (refine' use1 (jwday_spec _ _ _) ?k1a50c9 ?k2a50c9 ?k3a50c9 ?k4a50c9 ?k5a50c9 ?kKa50c9 ?kda50c9 ?kua50c9 ?kpa50c9 ?_; (case k1a50c9 => k_asm); (case k2a50c9 => k_asm); (case k3a50c9 => k_asm); (case k4a50c9 => k_asm); (case k5a50c9 => k_asm); (case kKa50c9 => first | exact rfl | assumption); (case kda50c9 => first | omega | ktr_room); (case kua50c9 => first | omega | ktr_units); (case kpa50c9 => first | trivial | assumption | omega | (constructor <;> omega) | k_extra "pre")); intro t9 h9 tk9 F9 N9; (try dsimp only); (try k_sweep); (try k_fold)))
def wb (w jd : Int) : Int := jd - (jd - w) % 7
theorem wb_spec (news) (v j : Int) (t1 t2 : Tok) : Call1 w loose mean mg mb 2 57 news [.int v t1, .int j t2] True (RetI (wb v j)) := by
  refine unwrap ?_
  simp (disch := k_dflt (
    k_with_none
    k_with "gl" => first | exact gl_jwday _
    dsimp only [Call1]
    intro dp un gd cn cs aF ccd cl outer A₀ base h₀ L mp s Q E B F X N T hk hdp hun hpre hret
    refine wpAny_call ?_
    k_dflt cell_enter
    (rename Fr _ _ _ _ => FE)
    (refine' startP (l' := [(Str.ofString "jd", .int j t2), (Str.ofString "weekday", .int v t1)]) ?cs ?nd FE ?e ?S ?_)
    (case cs => (first | (dsimp only; done) | rfl))
    (case nd => kernel_rfl!)
    (case e => kernel_rfl!)
    (case S => with_reducible (apply Sts.cons; apply Sts.cons; apply Sts.nil; (repeat (first | exact Nones.nil | apply Nones.cons)); (all_goals (repeat (first | exact St.here | apply St.there)))))
    (clear FE; intro hnd FE tk0; (try k_fold))
    k_steps
    all_goals (refine' endI hret ?q7a ?q7f ?q7n ?q7s; (case q7f => k_asm); (case q7n => k_asm); (case q7s => (first | exact fun _ h => h | exact fun _ h => .tail _ h | exact fun _ h => .tail _ (.tail _ h) | exact fun _ h => .tail _ (.tail _ (.tail _ h)) | exact fun _ h => .tail _ (.tail _ (.tail _ (.tail _ h))) | exact fun _ h => .tail _ (.tail _ (.tail _ (.tail _ (.tail _ h)))) | (intro p9 hp9; repeat (first | exact hp9 | refine List.Mem.tail _ ?_)))); (case q7a => (rfl))))) only [↓wrap_true]
local macro_rules | `(tactic| walk_at "call ref") => `(tactic| (k_here; (with_reducible show wpAny _ _ (call (Value.ref 57) _) _ _ _); k_dflt (refine' use1 (wb_spec _ _ _ _ _) ?k1a57c10 ?k2a57c10 ?k3a57c10 ?k4a57c10 ?k5a57c10 ?kKa57c10 ?kda57c10 ?kua57c10 ?kpa57c10 ?_; (case k1a57c10 => k_asm); (case k2a57c10 => k_asm); (case k3a57c10 => k_asm); (case k4a57c10 => k_asm); (case k5a57c10 => k_asm); (case kKa57c10 => first | exact rfl | assumption); (case kda57c10 => first | omega | ktr_room); (case kua57c10 => first | omega | ktr_units); (case kpa57c10 => first | trivial | assumption | omega | (constructor <;> omega) | k_extra "pre")); intro t9 h9 tk9 F9 N9; (try dsimp only); (try k_sweep); (try k_fold)))
theorem sw_spec (news) (v j : Int) (t1 t2 t3 t4 : Tok) : Call1 w loose mean mg mb 3 64 news [.int v t1, .int j t2, .int (-1) t3, .int 1 t4] True (RetI (wb v (j - 1))) := by
  refine unwrap ?_
  simp (disch := k_dflt (
    k_with_none
    k_with "gl" => first | exact gl_weekday_before _
    dsimp only [Call1]
    intro dp un gd cn cs aF ccd cl outer A₀ base h₀ L mp s Q E B F X N T hk hdp hun hpre hret
    refine wpAny_call ?_
    k_dflt cell_enter
    (rename Fr _ _ _ _ => FE)
    (refine' startP (l' := [(Str.ofString "offset", .int 1 t4), (Str.ofString "direction", .int (-1) t3), (Str.ofString "jd", .int j t2), (Str.ofString "weekday", .int v t1)]) ?cs ?nd FE ?e ?S ?_)
    (case cs => (first | (dsimp only; done) | rfl))
    (case nd => kernel_rfl!)
    (case e => kernel_rfl!)
    (case S => with_reducible (apply Sts.cons; apply Sts.cons; apply Sts.cons; apply Sts.cons; apply Sts.nil; (repeat (first | exact Nones.nil | apply Nones.cons)); (all_goals (repeat (first | exact St.here | apply St.there)))))
    (clear FE; intro hnd FE tk0; (try k_fold))
    k_steps
    all_goals (refine' endI hret ?q7a ?q7f ?q7n ?q7s; (case q7f => k_asm); (case q7n => k_asm); (case q7s => (first | exact fun _ h => h | exact fun _ h => .tail _ h | exact fun _ h => .tail _ (.tail _ h) | exact fun _ h => .tail _ (.tail _ (.tail _ h)) | exact fun _ h => .tail _ (.tail _ (.tail _ (.tail _ h))) | exact fun _ h => .tail _ (.tail _ (.tail _ (.tail _ (.tail _ h)))) | (intro p9 hp9; repeat (first | exact hp9 | refine List.Mem.tail _ ?_)))); (case q7a => (rfl))))) only [↓wrap_true]
local macro_rules | `(tactic| walk_at "call ref") => `(tactic| (k_here; (with_reducible show wpAny _ _ (call (Value.ref 64) _) _ _ _); k_dflt (refine' use1 (sw_spec _ _ _ _ _ _ _) ?k1a64c11 ?k2a64c11 ?k3a64c11 ?k4a64c11 ?k5a64c11 ?kKa64c11 ?kda64c11 ?kua64c11 ?kpa64c11 ?_; (case k1a64c11 => k_asm); (case k2a64c11 => k_asm); (case k3a64c11 => k_asm); (case k4a64c11 => k_asm); (case k5a64c11 => k_asm); (case kKa64c11 => first | exact rfl | assumption); (case kda64c11 => first | omega | ktr_room); (case kua64c11 => first | omega | ktr_units); (case kpa64c11 => first | trivial | assumption | omega | (constructor <;> omega) | k_extra "pre")); intro t9 h9 tk9 F9 N9; (try dsimp only); (try k_sweep); (try k_fold)))
theorem pw_spec (news) (v j : Int) (t1 t2 : Tok) : Call1 w loose mean mg mb 4 78 news [.int v t1, .int j t2] True (RetI (wb v (j - 1))) := by
  refine unwrap ?_
  simp (disch := k_dflt (
    k_with_none
    k_with "gl" => first | exact gl_search_weekday _
    dsimp only [Call1]
    intro dp un gd cn cs aF ccd cl outer A₀ base h₀ L mp s Q E B F X N T hk hdp hun hpre hret
    refine wpAny_call ?_
    k_dflt cell_enter
    (rename Fr _ _ _ _ => FE)
    (refine' startP (l' := [(Str.ofString "jd", .int j t2), (Str.ofString "weekday", .int v t1)]) ?cs ?nd FE ?e ?S ?_)
    (case cs => (first | (dsimp only; done) | rfl))
    (case nd => kernel_rfl!)
    (case e => kernel_rfl!)
    (case S => with_reducible (apply Sts.cons; apply Sts.cons; apply Sts.nil; (repeat (first | exact Nones.nil | apply Nones.cons)); (all_goals (repeat (first | exact St.here | apply St.there)))))
    (clear FE; intro hnd FE tk0; (try k_fold))
    k_steps
    all_goals (refine' endI hret ?q7a ?q7f ?q7n ?q7s; (case q7f => k_asm); (case q7n => k_asm); (case q7s => (first | exact fun _ h => h | exact fun _ h => .tail _ h | exact fun _ h => .tail _ (.tail _ h) | exact fun _ h => .tail _ (.tail _ (.tail _ h)) | exact fun _ h => .tail _ (.tail _ (.tail _ (.tail _ h))) | exact fun _ h => .tail _ (.tail _ (.tail _ (.tail _ (.tail _ h)))) | (intro p9 hp9; repeat (first | exact hp9 | refine List.Mem.tail _ ?_)))); (case q7a => (rfl))))) only [↓wrap_true]
local macro_rules | `(tactic| walk_at "call ref") => `(tactic| (k_here; (with_reducible show wpAny _ _ (call (Value.ref 78) _) _ _ _); k_dflt (refine' use1 (pw_spec _ _ _ _ _) ?k1a78c12 ?k2a78c12 ?k3a78c12 ?k4a78c12 ?k5a78c12 ?kKa78c12 ?kda78c12 ?kua78c12 ?kpa78c12 ?_; (case k1a78c12 => k_asm); (case k2a78c12 => k_asm); (case k3a78c12 => k_asm); (case k4a78c12 => k_asm); (case k5a78c12 => k_asm); (case kKa78c12 => first | exact rfl | assumption); (case kda78c12 => first | omega | ktr_room); (case kua78c12 => first | omega | ktr_units); (case kpa78c12 => first | trivial | assumption | omega | (constructor <;> omega) | k_extra "pre")); intro t9 h9 tk9 F9 N9; (try dsimp only); (try k_sweep); (try k_fold)))
theorem nweeks_spec (news) (v j n : Int) (t1 t2 t3 : Tok) : Call1 w loose mean mg mb 5 85 news [.int v t1, .int j t2, .int n t3] (0 < n) (RetI (7 * n + wb v (j - 1))) := by
  refine unwrap ?_
  simp (disch := k_dflt (
    k_with_none
    k_with "gl" => first | exact gl_previous_weekday _ | exact gl_next_weekday _
    dsimp only [Call1]
    intro dp un gd cn cs aF ccd cl outer A₀ base h₀ L mp s Q E B F X N T hk hdp hun hpre hret
    refine wpAny_call ?_
    k_dflt cell_enter
    (rename Fr _ _ _ _ => FE)
    (refine' startP (l' := [(Str.ofString "nthweek", .int n t3), (Str.ofString "jd", .int j t2), (Str.ofString "weekday", .int v t1)]) ?cs ?nd FE ?e ?S ?_)
    (case cs => (first | (dsimp only; done) | rfl))
    (case nd => kernel_rfl!)
    (case e => kernel_rfl!)
    (case S => with_reducible (apply Sts.cons; apply Sts.cons; apply Sts.cons; apply Sts.nil; (repeat (first | exact Nones.nil | apply Nones.cons)); (all_goals (repeat (first | exact St.here | apply St.there)))))
    (clear FE; intro hnd FE tk0; (try k_fold))
    k_steps
    all_goals (refine' endI hret ?q7a ?q7f ?q7n ?q7s; (case q7f => k_asm); (case q7n => k_asm); (case q7s => (first | exact fun _ h => h | exact fun _ h => .tail _ h | exact fun _ h => .tail _ (.tail _ h) | exact fun _ h => .tail _ (.tail _ (.tail _ h)) | exact fun _ h => .tail _ (.tail _ (.tail _ (.tail _ h))) | exact fun _ h => .tail _ (.tail _ (.tail _ (.tail _ (.tail _ h)))) | (intro p9 hp9; repeat (first | exact hp9 | refine List.Mem.tail _ ?_)))); (case q7a => (rfl))))) only [↓wrap_true]
local macro_rules | `(tactic| walk_at "call ref") => `(tactic| (k_here; (with_reducible show wpAny _ _ (call (Value.ref 85) _) _ _ _); k_dflt (refine' use1 (nweeks_spec _ _ _ _ _ _ _) ?k1a85c13 ?k2a85c13 ?k3a85c13 ?k4a85c13 ?k5a85c13 ?kKa85c13 ?kda85c13 ?kua85c13 ?kpa85c13 ?_; (case k1a85c13 => k_asm); (case k2a85c13 => k_asm); (case k3a85c13 => k_asm); (case k4a85c13 => k_asm); (case k5a85c13 => k_asm); (case kKa85c13 => first | exact rfl | assumption); (case kda85c13 => first | omega | ktr_room); (case kua85c13 => first | omega | ktr_units); (case kpa85c13 => first | trivial | assumption | omega | (constructor <;> omega) | k_extra "pre")); intro t9 h9 tk9 F9 N9; (try dsimp only); (try k_sweep); (try k_fold)))
def mdn (m : Int) : Int := [0, 31, 28, 31, 30, 31, 30, 31, 31, 30, 31, 30, 31].getD m.toNat 0
abbrev RetLen (x : Int) (h₀ : Heap) (L : Addr) (m : Str → Option Value) (news : List (Addr × Obj)) (s : Shared) (Q : Value → Shared → Prop) : Prop :=
  ∀ (D : Addr) (b : Int) (t1 t2 : Tok) (c : Nat) (h' : Heap) (tk' : Nat), Fr h₀ L h' m → News h₀ L h' ((D, tup2 b x t1 t2 c) :: news) → AllLt D news → Q (.ref D) { s with heap := h', toks := tk' }
theorem mrange_a {y m : Int} (h : 1 ≤ m ∧ m ≤ 12) (h2 : m = 2) (hl : isleap y = true) : [0, 31, 28, 31, 30, 31, 30, 31, 31, 30, 31, 30, (31 : Int)].getD m.toNat 0 + 1 = mlen y m := by
  subst h2; simp [mlen, hl]
theorem mrange_b {y m : Int} (h : 1 ≤ m ∧ m ≤ 12) (h2 : m = 2) (hl : isleap y = false) : [0, 31, 28, 31, 30, 31, 30, 31, 31, 30, 31, 30, (31 : Int)].getD m.toNat 0 + 0 = mlen y m := by
  subst h2; simp [mlen, hl]
theorem mrange_c {y m : Int} (h : 1 ≤ m ∧ m ≤ 12) (h2 : m ≠ 2) : [0, 31, 28, 31, 30, 31, 30, 31, 31, 30, 31, 30, (31 : Int)].getD m.toNat 0 + 0 = mlen y m := by
  rcases twelve h.1 h.2 with e | e | e | e | e | e | e | e | e | e | e | e <;> subst e <;> simp [mlen] at h2 ⊢
theorem endLen {h₀ h' : Heap} {L : Addr} {m : Str → Option Value} {news news' : List (Addr × Obj)} {s : Shared} {Q : Value → Shared → Prop} {tk' : Nat} {b x x' : Int} {t1 t2 : Tok} {c : Nat} {D : Addr} (hret : RetLen x h₀ L m news s Q) (e2 : x' = x) (F : Fr h₀ L h' m) (N : News h₀ L h' news') (hm : (D, tup2 b x' t1 t2 c) ∈ news') (hn : ∀ p ∈ news, p ∈ news') (hl : AllLt D news) : Q (.ref D) { s with heap := h', toks := tk' } := by
  subst e2
  exact hret D b t1 t2 c h' tk' F (fun p hp => by
    rcases List.mem_cons.mp hp with rfl | hp
    · exact N _ hm
    · exact N p (hn p hp)) hl
theorem mrange_spec (news) (y m : Int) (t1 t2 : Tok) : Call1 w loose mean mg mb 2 29 news [.int y t1, .int m t2] (1 ≤ m ∧ m ≤ 12) (RetLen (mlen y m)) := by
  refine unwrap ?_
  simp (disch := k_dflt (
    k_with_none
    k_with "gl" => first | exact gl_MONTH_DAYS _ | exact gl_isleap _
    k_with "gb" => first | exact gb_ValueError _
    dsimp only [Call1]
    intro dp un gd cn cs aF ccd cl outer A₀ base h₀ L mp s Q E B F X N T hk hdp hun hpre hret
    refine wpAny_call ?_
    k_dflt cell_enter
    (rename Fr _ _ _ _ => FE)
    (refine' startP (l' := [(Str.ofString "month", .int m t2), (Str.ofString "year", .int y t1)]) ?cs ?nd FE ?e ?S ?_)
    (case cs => (first | (dsimp only; done) | rfl))
    (case nd => kernel_rfl!)
    (case e => kernel_rfl!)
    (case S => with_reducible (apply Sts.cons; apply Sts.cons; apply Sts.nil; (repeat (first | exact Nones.nil | apply Nones.cons)); (all_goals (repeat (first | exact St.here | apply St.there)))))
    (clear FE; intro hnd FE tk0; (try k_fold))
    k_with "upto" => (simp; omega)
    k_with "pyIter ref" => ((rename Fr _ _ _ _ => zF); (rename News _ _ _ _ => zN); k_dflt (refine' iterTup "first" (fun _ _ => True) ?zi1 ?zi2 ?zi3 ?zim ?zii ?zia ?zis ?ziu ?zix ?zih ?zip ?_ ?_); (case zi1 => assumption); (case zi2 => exact zF); (case zi3 => exact zN); (case zim => k_mem); (case zii => first | assumption | (repeat constructor)); (case zia => with_reducible (repeat (first | exact At.here | apply At.there))); (case zis => (intros; with_reducible (repeat (first | exact St.here | apply St.there)))); (case ziu => with_reducible (repeat (first | exact At.here | apply At.there))); (case zix => (intros; with_reducible (repeat (first | exact St.here | apply St.there)))); (case zih => with_unfolding_all exact rfl); (case zip => k_dflt (trivial)); (all_goals (clear zF zN; intros; (try dsimp only at *); (try k_fold))))
    k_with "turn" => trivial
    k_steps
    all_goals (refine' endLen hret ?q7b ?q7f ?q7n ?q7m ?q7s ?q7l; (case q7f => k_asm); (case q7n => k_asm); (case q7m => k_mem); (case q7s => exact fun _ h => .tail _ (.tail _ h)); (case q7l => exact And.right (by assumption)); (case q7b => first | exact mrange_a hpre (by assumption) (by assumption) | exact mrange_b hpre (by assumption) (by assumption) | exact mrange_c hpre (by assumption))))) only [↓wrap_true]
local macro_rules | `(tactic| walk_at "call ref") => `(tactic| (k_here; (with_reducible show wpAny _ _ (call (Value.ref 29) _) _ _ _); k_dflt (refine' use1 (mrange_spec _ _ _ _ _) ?k1a29 ?k2a29 ?k3a29 ?k4a29 ?k5a29 ?kKa29 ?kda29 ?kua29 ?kpa29 ?_; (case k1a29 => k_asm); (case k2a29 => k_asm); (case k3a29 => k_asm); (case k4a29 => k_asm); (case k5a29 => k_asm); (case kKa29 => first | exact rfl | assumption); (case kda29 => first | omega | ktr_room); (case kua29 => first | omega | ktr_units); (case kpa29 => first | assumption | omega | k_extra "pre")); intro D9 b9 t91 t92 c9 h9 tk9 F9 N9 l9; (try simp only [AllLt, and_true] at l9); (try dsimp only); (try k_sweep); (try k_fold)))
theorem monthlen_spec (news) (y m : Int) (t1 t2 : Tok) : Call1 w loose mean mg mb 3 114 news [.int y t1, .int m t2] (1 ≤ m ∧ m ≤ 12) (RetI (mlen y m)) := by
  refine unwrap ?_
  simp (disch := k_dflt (
    k_with_none
    k_with "gl" => first | exact gl_monthrange _
    dsimp only [Call1]
    intro dp un gd cn cs aF ccd cl outer A₀ base h₀ L mp s Q E B F X N T hk hdp hun hpre hret
    refine wpAny_call ?_
    k_dflt cell_enter
    (rename Fr _ _ _ _ => FE)
    (refine' startP (l' := [(Str.ofString "month", .int m t2), (Str.ofString "year", .int y t1)]) ?cs ?nd FE ?e ?S ?_)
    (case cs => (first | (dsimp only; done) | rfl))
    (case nd => kernel_rfl!)
    (case e => kernel_rfl!)
    (case S => with_reducible (apply Sts.cons; apply Sts.cons; apply Sts.nil; (repeat (first | exact Nones.nil | apply Nones.cons)); (all_goals (repeat (first | exact St.here | apply St.there)))))
    (clear FE; intro hnd FE tk0; (try k_fold))
    k_steps
    all_goals (refine' endI hret ?q7a ?q7f ?q7n ?q7s; (case q7f => k_asm); (case q7n => k_asm); (case q7s => (first | exact fun _ h => h | exact fun _ h => .tail _ h | exact fun _ h => .tail _ (.tail _ h) | exact fun _ h => .tail _ (.tail _ (.tail _ h)) | exact fun _ h => .tail _ (.tail _ (.tail _ (.tail _ h))) | exact fun _ h => .tail _ (.tail _ (.tail _ (.tail _ (.tail _ h)))) | (intro p9 hp9; repeat (first | exact hp9 | refine List.Mem.tail _ ?_)))); (case q7a => (rfl))))) only [↓wrap_true]
local macro_rules | `(tactic| walk_at "call ref") => `(tactic| (k_here; (with_reducible show wpAny _ _ (call (Value.ref 114) _) _ _ _); k_dflt (refine' use1 (monthlen_spec _ _ _ _ _) ?k1a114c14 ?k2a114c14 ?k3a114c14 ?k4a114c14 ?k5a114c14 ?kKa114c14 ?kda114c14 ?kua114c14 ?kpa114c14 ?_; (case k1a114c14 => k_asm); (case k2a114c14 => k_asm); (case k3a114c14 => k_asm); (case k4a114c14 => k_asm); (case k5a114c14 => k_asm); (case kKa114c14 => first | exact rfl | assumption); (case kda114c14 => first | omega | ktr_room); (case kua114c14 => first | omega | ktr_units); (case kpa114c14 => first | trivial | assumption | omega | (constructor <;> omega) | k_extra "pre")); intro t9 h9 tk9 F9 N9; (try dsimp only); (try k_sweep); (try k_fold)))

-- A5
-- ordinal
theorem civ_pre (n : Int) : 0 < cd n ∧ cd n ≤ mlen (cy n) (cm n) := ⟨by have := (civ_legal n).2.2.1; omega, (civ_legal n).2.2.2⟩
theorem to_jd_ordinal_spec (news) (y k : Int) (t1 t2 : Tok) : Call1 w loose mean mg mb 4 121 news [.int y t1, .int k t2] True (RetI (gjd y 1 1 + k - 1)) := by
  refine unwrap ?_
  simp (disch := k_dflt (
    k_with_none
    k_with "gl" => first | exact gl_to_jd_gregorian _
    dsimp only [Call1]
    intro dp un gd cn cs aF ccd cl outer A₀ base h₀ L mp s Q E B F X N T hk hdp hun hpre hret
    refine wpAny_call ?_
    k_dflt cell_enter
    (rename Fr _ _ _ _ => FE)
    (refine' startP (l' := [(Str.ofString "dayofyear", .int k t2), (Str.ofString "year", .int y t1)]) ?cs ?nd FE ?e ?S ?_)
    (case cs => (first | (dsimp only; done) | rfl))
    (case nd => kernel_rfl!)
    (case e => kernel_rfl!)
    (case S => with_reducible (apply Sts.cons; apply Sts.cons; apply Sts.nil; (repeat (first | exact Nones.nil | apply Nones.cons)); (all_goals (repeat (first | exact St.here | apply St.there)))))
    (clear FE; intro hnd FE tk0; (try k_fold))
    k_steps
    all_goals (refine' endI hret ?q7a ?q7f ?q7n ?q7s; (case q7f => k_asm); (case q7n => k_asm); (case q7s => (first | exact fun _ h => h | exact fun _ h => .tail _ h | exact fun _ h => .tail _ (.tail _ h) | exact fun _ h => .tail _ (.tail _ (.tail _ h)) | exact fun _ h => .tail _ (.tail _ (.tail _ (.tail _ h))) | exact fun _ h => .tail _ (.tail _ (.tail _ (.tail _ (.tail _ h)))) | (intro p9 hp9; repeat (first | exact hp9 | refine List.Mem.tail _ ?_)))); (case q7a => (rfl))))) only [↓wrap_true]
local macro_rules | `(tactic| walk_at "call ref") => `(tactic| (k_here; (with_reducible show wpAny _ _ (call (Value.ref 121) _) _ _ _); k_dflt (refine' use1 (to_jd_ordinal_spec _ _ _ _ _) ?k1a121c15 ?k2a121c15 ?k3a121c15 ?k4a121c15 ?k5a121c15 ?kKa121c15 ?kda121c15 ?kua121c15 ?kpa121c15 ?_; (case k1a121c15 => k_asm); (case k2a121c15 => k_asm); (case k3a121c15 => k_asm); (case k4a121c15 => k_asm); (case k5a121c15 => k_asm); (case kKa121c15 => first | exact rfl | assumption); (case kda121c15 => first | omega | ktr_room); (case kua121c15 => first | omega | ktr_units); (case kpa121c15 => first | trivial | assumption | omega | (constructor <;> omega) | k_extra "pre")); intro t9 h9 tk9 F9 N9; (try dsimp only); (try k_sweep); (try k_fold)))
theorem from_jd_ordinal_spec (news) (n : Int) (t1 : Tok) : Call1 w loose mean mg mb 5 128 news [.int n t1] True (Ret2 (cy n) (yday n + 1)) := by
  refine unwrap ?_
  simp (disch := k_dflt (
    k_with_none
    k_with "gl" => first | exact gl_from_jd_gregorian _ | exact gl_to_jd_gregorian _
    k_with "gb" => first | exact gb_int _
    dsimp only [Call1]
    intro dp un gd cn cs aF ccd cl outer A₀ base h₀ L mp s Q E B F X N T hk hdp hun hpre hret
    refine wpAny_call ?_
    k_dflt cell_enter
    (rename Fr _ _ _ _ => FE)
    (refine' startP (l' := [(Str.ofString "jd", .int n t1)]) ?cs ?nd FE ?e ?S ?_)
    (case cs => (first | (dsimp only; done) | rfl))
    (case nd => kernel_rfl!)
    (case e => kernel_rfl!)
    (case S => with_reducible (apply Sts.cons; apply Sts.nil; (repeat (first | exact Nones.nil | apply Nones.cons)); (all_goals (repeat (first | exact St.here | apply St.there)))))
    (clear FE; intro hnd FE tk0; (try k_fold))
    k_with "pre" => exact civ_pre n
    k_steps
    all_goals (refine' end2 hret ?q7a ?q7b ?q7f ?q7n ?q7m ?q7s ?q7l; (case q7f => k_asm); (case q7n => k_asm); (case q7m => k_mem); (case q7s => (first | exact fun _ h => h | exact fun _ h => .tail _ h | exact fun _ h => .tail _ (.tail _ h) | exact fun _ h => .tail _ (.tail _ (.tail _ h)) | exact fun _ h => .tail _ (.tail _ (.tail _ (.tail _ h))) | exact fun _ h => .tail _ (.tail _ (.tail _ (.tail _ (.tail _ h)))) | (intro p9 hp9; repeat (first | exact hp9 | refine List.Mem.tail _ ?_)))); (case q7l => (first | assumption | k_extra "lt" | exact allLt_of (by assumption) | exact And.right (by assumption) | (simp only [AllLt, and_true] at *; first | assumption | exact allLt_of (by assumption) | exact And.right (by assumption) | (simp_all; done)))); (case q7a => (first | rfl | (rw [civ_day]; rfl))); (case q7b => (first | rfl | (rw [civ_day]; rfl)))))) only [↓wrap_true]
local macro_rules | `(tactic| walk_at "call ref") => `(tactic| (k_here; (with_reducible show wpAny _ _ (call (Value.ref 128) _) _ _ _); k_dflt (refine' use1 (from_jd_ordinal_spec _ _ _) ?k1a128c16 ?k2a128c16 ?k3a128c16 ?k4a128c16 ?k5a128c16 ?kKa128c16 ?kda128c16 ?kua128c16 ?kpa128c16 ?_; (case k1a128c16 => k_asm); (case k2a128c16 => k_asm); (case k3a128c16 => k_asm); (case k4a128c16 => k_asm); (case k5a128c16 => k_asm); (case kKa128c16 => first | exact rfl | assumption); (case kda128c16 => first | omega | ktr_room); (case kua128c16 => first | omega | ktr_units); (case kpa128c16 => first | trivial | assumption | omega | (constructor <;> omega) | k_extra "pre")); intro D9 t91 t92 c9 h9 tk9 F9 N9 l9; (try simp only [AllLt, and_true] at l9); (try dsimp only); (try k_sweep); (try k_fold)))
def fgm (m : Int) : Int := if m + 1 ≤ 3 then m + 1 + 12 else m + 1
abbrev fgT (y k d : Int) : Int := 306 * k / 10 + d - 122 + 59 + lp y
def fg (y m d : Int) : Int := if 365 + lp y < fgT y (fgm m) d then fgT y (fgm m) d - 365 - lp y else fgT y (fgm m) d
theorem fg_a {y m d : Int} (h : m + 1 ≤ 3) (h2 : 365 + lp y < fgT y (m + 1 + 12) d) : fgT y (m + 1 + 12) d - 365 - lp y = fg y m d := by simp [fg, fgm, h, h2]
theorem fg_b {y m d : Int} (h : m + 1 ≤ 3) (h2 : ¬ 365 + lp y < fgT y (m + 1 + 12) d) : fgT y (m + 1 + 12) d = fg y m d := by simp [fg, fgm, h, h2]
theorem fg_c {y m d : Int} (h : ¬ m + 1 ≤ 3) (h2 : 365 + lp y < fgT y (m + 1) d) : fgT y (m + 1) d - 365 - lp y = fg y m d := by simp [fg, fgm, h, h2]
theorem fg_d {y m d : Int} (h : ¬ m + 1 ≤ 3) (h2 : ¬ 365 + lp y < fgT y (m + 1) d) : fgT y (m + 1) d = fg y m d := by simp [fg, fgm, h, h2]
theorem fg_spec (news) (y m d : Int) (t1 t2 t3 : Tok) : Call1 w loose mean mg mb 2 135 news [.int y t1, .int m t2, .int d t3] (1 ≤ m ∧ m ≤ 12) (Ret2 y (fg y m d)) := by
  refine unwrap ?_
  simp (disch := k_dflt (
    k_with_none
    k_with "gl" => first | exact gl_isleap _ | exact gl_trunc _
    dsimp only [Call1]
    intro dp un gd cn cs aF ccd cl outer A₀ base h₀ L mp s Q E B F X N T hk hdp hun hpre hret
    refine wpAny_call ?_
    k_dflt cell_enter
    (rename Fr _ _ _ _ => FE)
    (refine' startP (l' := [(Str.ofString "day", .int d t3), (Str.ofString "month", .int m t2), (Str.ofString "year", .int y t1)]) ?cs ?nd FE ?e ?S ?_)
    (case cs => (first | (dsimp only; done) | rfl))
    (case nd => kernel_rfl!)
    (case e => kernel_rfl!)
    (case S => with_reducible (apply Sts.cons; apply Sts.cons; apply Sts.cons; apply Sts.nil; (repeat (first | exact Nones.nil | apply Nones.cons)); (all_goals (repeat (first | exact St.here | apply St.there)))))
    (clear FE; intro hnd FE tk0; (try k_fold))
    k_with "pre" => (refine ⟨?_, by decide, by decide⟩; omega)
    k_steps
    all_goals (refine' end2 hret ?q7a ?q7b ?q7f ?q7n ?q7m ?q7s ?q7l; (case q7f => k_asm); (case q7n => k_asm); (case q7m => k_mem); (case q7s => (first | exact fun _ h => h | exact fun _ h => .tail _ h | exact fun _ h => .tail _ (.tail _ h) | exact fun _ h => .tail _ (.tail _ (.tail _ h)) | exact fun _ h => .tail _ (.tail _ (.tail _ (.tail _ h))) | exact fun _ h => .tail _ (.tail _ (.tail _ (.tail _ (.tail _ h)))) | (intro p9 hp9; repeat (first | exact hp9 | refine List.Mem.tail _ ?_)))); (case q7l => (first | assumption | k_extra "lt" | exact allLt_of (by assumption) | exact And.right (by assumption) | (simp only [AllLt, and_true] at *; first | assumption | exact allLt_of (by assumption) | exact And.right (by assumption) | (simp_all; done)))); (case q7a => (with_reducible first | rfl | exact fg_a (by assumption) (by assumption) | exact fg_b (by assumption) (by assumption) | exact fg_c (by assumption) (by assumption) | exact fg_d (by assumption) (by assumption))); (case q7b => (with_reducible first | rfl | exact fg_a (by assumption) (by assumption) | exact fg_b (by assumption) (by assumption) | exact fg_c (by assumption) (by assumption) | exact fg_d (by assumption) (by assumption)))))) only [↓wrap_true]
local macro_rules | `(tactic| walk_at "call ref") => `(tactic| (k_here; (with_reducible show wpAny _ _ (call (Value.ref 135) _) _ _ _); k_dflt (refine' use1 (fg_spec _ _ _ _ _ _ _) ?k1a135c17 ?k2a135c17 ?k3a135c17 ?k4a135c17 ?k5a135c17 ?kKa135c17 ?kda135c17 ?kua135c17 ?kpa135c17 ?_; (case k1a135c17 => k_asm); (case k2a135c17 => k_asm); (case k3a135c17 => k_asm); (case k4a135c17 => k_asm); (case k5a135c17 => k_asm); (case kKa135c17 => first | exact rfl | assumption); (case kda135c17 => first | omega | ktr_room); (case kua135c17 => first | omega | ktr_units); (case kpa135c17 => first | assumption | omega | k_extra "pre2")); intro D9 t91 t92 c9 h9 tk9 F9 N9 l9; (try simp only [AllLt, and_true] at l9); (try dsimp only); (try k_sweep); (try k_fold)))
theorem fg_off {y m : Int} (h1 : 1 ≤ m) (h2 : m ≤ 12) : fg y m 1 = moff (isleap y) m + 1 := by
  unfold fg fgT fgm moff lp
  cases isleap y <;> rcases twelve h1 h2 with h | h | h | h | h | h | h | h | h | h | h | h <;> subst h <;> simp
theorem tgo_m {n : Int} {l : Int} (h : l = madj (isleap (cy n)) (yday n)) : ((yday n + 1 - 1 + l) * 12 + 373) / 367 = cm n := by
  subst h
  show _ = ((yday n + madj (isleap (cy n)) (yday n)) * 12 + 373) / 367
  rw [show yday n + 1 - 1 = yday n by omega]
theorem yday_in (n : Int) : 0 ≤ yday n ∧ yday n < 365 + lp (cy n) := by
  have h := cy_in n
  rw [dys_l] at h
  rw [yday_eq]
  unfold lp
  omega
theorem tgo_d (n : Int) : yday n + 1 - fg (cy n) (cm n) 1 + 1 = cd n := by
  rw [fg_off (civ_legal n).1 (civ_legal n).2.1]
  have h := civ_day n
  rw [gjd_off] at h
  rw [yday_eq]
  omega
theorem tgo_adj {n : Int} : yday n + 1 < 59 + lp (cy n) ↔ yday n < 58 + (if isleap (cy n) = true then 1 else 0) := by unfold lp; omega
theorem tgo_a {n : Int} (h : yday n + 1 < 59 + lp (cy n)) : 0 = madj (isleap (cy n)) (yday n) := madj_a (tgo_adj.mp h)
theorem tgo_b {n : Int} (h : ¬ yday n + 1 < 59 + lp (cy n)) (hl : isleap (cy n) = true) : 1 = madj (isleap (cy n)) (yday n) := madj_b (fun e => h (tgo_adj.mpr e)) hl
theorem tgo_c {n : Int} (h : ¬ yday n + 1 < 59 + lp (cy n)) (hl : isleap (cy n) = false) : 2 = madj (isleap (cy n)) (yday n) := madj_c (fun e => h (tgo_adj.mpr e)) hl
theorem madj_in (l : Bool) (k : Int) : 0 ≤ madj l k ∧ madj l k ≤ 2 := by
  unfold madj
  repeat' split
  all_goals decide
theorem tgo_pre (n : Int) : 0 ≤ (yday n + 1 - 1 + madj (isleap (cy n)) (yday n)) * 12 + 373 := by
  have := (yday_in n).1
  have := (madj_in (isleap (cy n)) (yday n)).1
  omega
theorem to_greg_ordinal_spec (news) (n : Int) (t1 t2 : Tok) : Call1 w loose mean mg mb 3 142 news [.int (cy n) t1, .int (yday n + 1) t2] True (Ret3 (cy n) (cm n) (cd n)) := by
  refine unwrap ?_
  simp (disch := k_dflt (
    k_with_none
    k_with "gl" => first | exact gl_isleap _ | exact gl_trunc _ | exact gl_from_gregorian_ordinal _
    dsimp only [Call1]
    intro dp un gd cn cs aF ccd cl outer A₀ base h₀ L mp s Q E B F X N T hk hdp hun hpre hret
    refine wpAny_call ?_
    k_dflt cell_enter
    (rename Fr _ _ _ _ => FE)
    (refine' startP (l' := [(Str.ofString "dayofyear", .int (yday n + 1) t2), (Str.ofString "year", .int (cy n) t1)]) ?cs ?nd FE ?e ?S ?_)
    (case cs => (first | (dsimp only; done) | rfl))
    (case nd => kernel_rfl!)
    (case e => kernel_rfl!)
    (case S => with_reducible (apply Sts.cons; apply Sts.cons; apply Sts.nil; (repeat (first | exact Nones.nil | apply Nones.cons)); (all_goals (repeat (first | exact St.here | apply St.there)))))
    (clear FE; intro hnd FE tk0; (try k_fold))
    k_with "cut" => ((with_reducible show wpAny _ _ (execs (Stmt.If _ _ _ ⟨114, _, _, _⟩ :: _) _) _ _ _); (rename Fr _ _ _ _ => zF); (rename News _ _ _ _ => zN); k_dflt (refine' cut1 "leap_adj" (madj (isleap (cy n)) (yday n)) (by assumption) zF zN ?zs1 ?_ ?_); (case zs1 => (intro t; with_reducible (repeat (first | exact St.here | apply St.there)))); (all_goals (intros; (try k_sweep); (try k_fold))))
    k_with "cuteq" => with_reducible first | exact tgo_a (by assumption) | exact tgo_b (by assumption) (by assumption) | exact tgo_c (by assumption) (by assumption)
    k_with "pre" => exact ⟨tgo_pre n, by decide, by decide⟩
    k_with "pre2" => (rw [tgo_m rfl]; exact ⟨(civ_legal n).1, (civ_legal n).2.1⟩)
    k_steps
    all_goals (refine' end3 hret ?q7a ?q7b ?q7c ?q7f ?q7n ?q7m ?q7s ?q7l; (case q7f => k_asm); (case q7n => k_asm); (case q7m => k_mem); (case q7s => (first | exact fun _ h => h | exact fun _ h => .tail _ h | exact fun _ h => .tail _ (.tail _ h) | exact fun _ h => .tail _ (.tail _ (.tail _ h)) | exact fun _ h => .tail _ (.tail _ (.tail _ (.tail _ h))) | exact fun _ h => .tail _ (.tail _ (.tail _ (.tail _ (.tail _ h)))) | (intro p9 hp9; repeat (first | exact hp9 | refine List.Mem.tail _ ?_)))); (case q7l => (first | assumption | k_extra "lt" | exact allLt_of (by assumption) | exact And.right (by assumption) | (simp only [AllLt, and_true] at *; first | assumption | exact allLt_of (by assumption) | exact And.right (by assumption) | (simp_all; done)))); (case q7a => (first | rfl | exact tgo_m rfl | (rw [tgo_m rfl]; exact tgo_d n))); (case q7b => (first | rfl | exact tgo_m rfl | (rw [tgo_m rfl]; exact tgo_d n))); (case q7c => (first | rfl | exact tgo_m rfl | (rw [tgo_m rfl]; exact tgo_d n)))))) only [↓wrap_true]
local macro_rules | `(tactic| walk_at "call ref") => `(tactic| (k_here; (with_reducible show wpAny _ _ (call (Value.ref 142) _) _ _ _); k_dflt (refine' use1 (to_greg_ordinal_spec _ _ _ _) ?k1a142c18 ?k2a142c18 ?k3a142c18 ?k4a142c18 ?k5a142c18 ?kKa142c18 ?kda142c18 ?kua142c18 ?kpa142c18 ?_; (case k1a142c18 => k_asm); (case k2a142c18 => k_asm); (case k3a142c18 => k_asm); (case k4a142c18 => k_asm); (case k5a142c18 => k_asm); (case kKa142c18 => first | exact rfl | assumption); (case kda142c18 => first | omega | ktr_room); (case kua142c18 => first | omega | ktr_units); (case kpa142c18 => first | trivial | assumption | omega | (constructor <;> omega) | k_extra "pre")); intro D9 t91 t92 t93 c9 h9 tk9 F9 N9 l9; (try simp only [AllLt, and_true] at l9); (try dsimp only); (try k_sweep); (try k_fold)))

section

-- A6
-- julian
abbrev jleap (y : Int) : Bool := y % 4 == 0
theorem jleap_spec (news) (y : Int) (t1 : Tok) : Call1 w loose mean mg mb 1 150 news [.int y t1] True (RetB (jleap y)) := by
  refine unwrap ?_
  simp (disch := k_dflt (
    k_with_none
    dsimp only [Call1]
    intro dp un gd cn cs aF ccd cl outer A₀ base h₀ L mp s Q E B F X N T hk hdp hun hpre hret
    refine wpAny_call ?_
    k_dflt cell_enter
    (rename Fr _ _ _ _ => FE)
    (refine' startP (l' := [(Str.ofString "year", .int y t1)]) ?cs ?nd FE ?e ?S ?_)
    (case cs => (first | (dsimp only; done) | rfl))
    (case nd => kernel_rfl!)
    (case e => kernel_rfl!)
    (case S => with_reducible (apply Sts.cons; apply Sts.nil; (repeat (first | exact Nones.nil | apply Nones.cons)); (all_goals (repeat (first | exact St.here | apply St.there)))))
    (clear FE; intro hnd FE tk0; (try k_fold))
    k_steps
    all_goals (refine' endB hret ?q7a ?q7f ?q7n ?q7s; (case q7f => k_asm); (case q7n => k_asm); (case q7s => (first | exact fun _ h => h | exact fun _ h => .tail _ h | exact fun _ h => .tail _ (.tail _ h) | exact fun _ h => .tail _ (.tail _ (.tail _ h)) | exact fun _ h => .tail _ (.tail _ (.tail _ (.tail _ h))) | exact fun _ h => .tail _ (.tail _ (.tail _ (.tail _ (.tail _ h)))) | (intro p9 hp9; repeat (first | exact hp9 | refine List.Mem.tail _ ?_)))); (case q7a => (rfl))))) only [↓wrap_true]
local macro_rules | `(tactic| walk_at "call ref") => `(tactic| (k_here; (with_reducible show wpAny _ _ (call (Value.ref 150) _) _ _ _); k_dflt (refine' use1 (jleap_spec _ _ _) ?k1a150c19 ?k2a150c19 ?k3a150c19 ?k4a150c19 ?k5a150c19 ?kKa150c19 ?kda150c19 ?kua150c19 ?kpa150c19 ?_; (case k1a150c19 => k_asm); (case k2a150c19 => k_asm); (case k3a150c19 => k_asm); (case k4a150c19 => k_asm); (case k5a150c19 => k_asm); (case kKa150c19 => first | exact rfl | assumption); (case kda150c19 => first | omega | ktr_room); (case kua150c19 => first | omega | ktr_units); (case kpa150c19 => first | trivial | assumption | omega | (constructor <;> omega) | k_extra "pre")); intro h9 tk9 F9 N9; (try dsimp only); (try k_sweep); (try k_fold)))
def jml (y m : Int) : Int := if m = 2 then (if y % 4 = 0 then 29 else 28) else if m = 4 ∨ m = 6 ∨ m = 9 ∨ m = 11 then 30 else 31
theorem jml_a {y m : Int} (h : m = 2) (hl : y % 4 = 0) : 29 = jml y m := by rw [jml, if_pos h, if_pos hl]
theorem jml_b {y m : Int} (h : m = 2) (hl : y % 4 ≠ 0) : 28 = jml y m := by rw [jml, if_pos h, if_neg hl]
theorem jml_c {y m : Int} (h : m ≠ 2) (h2 : m = 4 ∨ m = 6 ∨ m = 9 ∨ m = 11) : 30 = jml y m := by rw [jml, if_neg h, if_pos h2]
theorem jml_d {y m : Int} (h : m ≠ 2) (h2 : ¬ m = 4 ∧ ¬ m = 6 ∧ ¬ m = 9 ∧ ¬ m = 11) : 31 = jml y m := by rw [jml, if_neg h, if_neg (by omega)]
theorem jml_spec (news) (y m : Int) (t1 t2 : Tok) : Call1 w loose mean mg mb 2 157 news [.int y t1, .int m t2] True (RetI (jml y m)) := by
  refine unwrap ?_
  simp (disch := k_dflt (
    k_with_none
    k_with "gl" => first | exact gl_leap_julian _ | exact gl_HAVE_30_DAYS_julian _
    dsimp only [Call1]
    intro dp un gd cn cs aF ccd cl outer A₀ base h₀ L mp s Q E B F X N T hk hdp hun hpre hret
    refine wpAny_call ?_
    k_dflt cell_enter
    (rename Fr _ _ _ _ => FE)
    (refine' startP (l' := [(Str.ofString "month", .int m t2), (Str.ofString "year", .int y t1)]) ?cs ?nd FE ?e ?S ?_)
    (case cs => (first | (dsimp only; done) | rfl))
    (case nd => kernel_rfl!)
    (case e => kernel_rfl!)
    (case S => with_reducible (apply Sts.cons; apply Sts.cons; apply Sts.nil; (repeat (first | exact Nones.nil | apply Nones.cons)); (all_goals (repeat (first | exact St.here | apply St.there)))))
    (clear FE; intro hnd FE tk0; (try k_fold))
    k_steps
    all_goals (refine' endI hret ?q7a ?q7f ?q7n ?q7s; (case q7f => k_asm); (case q7n => k_asm); (case q7s => (first | exact fun _ h => h | exact fun _ h => .tail _ h | exact fun _ h => .tail _ (.tail _ h) | exact fun _ h => .tail _ (.tail _ (.tail _ h)) | exact fun _ h => .tail _ (.tail _ (.tail _ (.tail _ h))) | exact fun _ h => .tail _ (.tail _ (.tail _ (.tail _ (.tail _ h)))) | (intro p9 hp9; repeat (first | exact hp9 | refine List.Mem.tail _ ?_)))); (case q7a => (with_reducible first | exact jml_a (by assumption) (by assumption) | exact jml_b (by assumption) (by assumption) | exact jml_c (by assumption) (by assumption) | exact jml_d (by assumption) (by assumption)))))) only [↓wrap_true]
local macro_rules | `(tactic| walk_at "call ref") => `(tactic| (k_here; (with_reducible show wpAny _ _ (call (Value.ref 157) _) _ _ _); k_dflt (refine' use1 (jml_spec _ _ _ _ _) ?k1a157c20 ?k2a157c20 ?k3a157c20 ?k4a157c20 ?k5a157c20 ?kKa157c20 ?kda157c20 ?kua157c20 ?kpa157c20 ?_; (case k1a157c20 => k_asm); (case k2a157c20 => k_asm); (case k3a157c20 => k_asm); (case k4a157c20 => k_asm); (case k5a157c20 => k_asm); (case kKa157c20 => first | exact rfl | assumption); (case kda157c20 => first | omega | ktr_room); (case kua157c20 => first | omega | ktr_units); (case kpa157c20 => first | trivial | assumption | omega | (constructor <;> omega) | k_extra "pre")); intro t9 h9 tk9 F9 N9; (try dsimp only); (try k_sweep); (try k_fold)))
theorem jlegal_spec (news) (y m d : Int) (t1 t2 t3 : Tok) : Call1 w loose mean mg mb 3 164 news [.int y t1, .int m t2, .int d t3] (0 < d ∧ d ≤ jml y m) (RetB true) := by
  refine unwrap ?_
  simp (disch := k_dflt (
    k_with_none
    k_with "gl" => first | exact gl_month_length_julian _
    k_with "gb" => first | exact gb_ValueError _
    dsimp only [Call1]
    intro dp un gd cn cs aF ccd cl outer A₀ base h₀ L mp s Q E B F X N T hk hdp hun hpre hret
    refine wpAny_call ?_
    k_dflt cell_enter
    (rename Fr _ _ _ _ => FE)
    (refine' startP (l' := [(Str.ofString "day", .int d t3), (Str.ofString "month", .int m t2), (Str.ofString "year", .int y t1)]) ?cs ?nd FE ?e ?S ?_)
    (case cs => (first | (dsimp only; done) | rfl))
    (case nd => kernel_rfl!)
    (case e => kernel_rfl!)
    (case S => with_reducible (apply Sts.cons; apply Sts.cons; apply Sts.cons; apply Sts.nil; (repeat (first | exact Nones.nil | apply Nones.cons)); (all_goals (repeat (first | exact St.here | apply St.there)))))
    (clear FE; intro hnd FE tk0; (try k_fold))
    k_with "raise" => omega
    k_steps
    all_goals (refine' endB hret ?q7a ?q7f ?q7n ?q7s; (case q7f => k_asm); (case q7n => k_asm); (case q7s => (first | exact fun _ h => h | exact fun _ h => .tail _ h | exact fun _ h => .tail _ (.tail _ h) | exact fun _ h => .tail _ (.tail _ (.tail _ h)) | exact fun _ h => .tail _ (.tail _ (.tail _ (.tail _ h))) | exact fun _ h => .tail _ (.tail _ (.tail _ (.tail _ (.tail _ h)))) | (intro p9 hp9; repeat (first | exact hp9 | refine List.Mem.tail _ ?_)))); (case q7a => (rfl))))) only [↓wrap_true]
local macro_rules | `(tactic| walk_at "call ref") => `(tactic| (k_here; (with_reducible show wpAny _ _ (call (Value.ref 164) _) _ _ _); k_dflt (refine' use1 (jlegal_spec _ _ _ _ _ _ _) ?k1a164c21 ?k2a164c21 ?k3a164c21 ?k4a164c21 ?k5a164c21 ?kKa164c21 ?kda164c21 ?kua164c21 ?kpa164c21 ?_; (case k1a164c21 => k_asm); (case k2a164c21 => k_asm); (case k3a164c21 => k_asm); (case k4a164c21 => k_asm); (case k5a164c21 => k_asm); (case kKa164c21 => first | exact rfl | assumption); (case kda164c21 => first | omega | ktr_room); (case kua164c21 => first | omega | ktr_units); (case kpa164c21 => first | trivial | assumption | omega | (constructor <;> omega) | k_extra "pre")); intro h9 tk9 F9 N9; (try dsimp only); (try k_sweep); (try k_fold)))
abbrev jC (n : Int) : Int := (20 * (n + 1524) - 2442) / 7305
abbrev jE (n : Int) : Int := (n + 1524 - 1461 * jC n / 4) * 10000 / 306001
def jm (n : Int) : Int := if jE n < 14 then jE n - 1 else jE n - 13
def jy (n : Int) : Int := if 2 < jm n then jC n - 4716 else jC n - 4715
def jd (n : Int) : Int := n + 1524 - 1461 * jC n / 4 - 306001 * jE n / 10000
theorem jm_a {n : Int} (h : jE n < 14) : jE n - 1 = jm n := by rw [jm, if_pos h]
theorem jm_b {n : Int} (h : ¬ jE n < 14) : jE n - 13 = jm n := by rw [jm, if_neg h]
theorem jy_a {n : Int} (h : 2 < jm n) : jC n - 4716 = jy n := by rw [jy, if_pos h]
theorem jy_b {n : Int} (h : ¬ 2 < jm n) : jC n - 4715 = jy n := by rw [jy, if_neg h]
theorem from_jd_julian_spec (news) (n : Int) (t1 : Tok) : Call1 w loose mean mg mb 1 171 news [.int n t1] True (Ret3 (jy n) (jm n) (jd n)) := by
  refine unwrap ?_
  simp (disch := k_dflt (
    k_with_none
    dsimp only [Call1]
    intro dp un gd cn cs aF ccd cl outer A₀ base h₀ L mp s Q E B F X N T hk hdp hun hpre hret
    refine wpAny_call ?_
    k_dflt cell_enter
    (rename Fr _ _ _ _ => FE)
    (refine' startP (l' := [(Str.ofString "jd", .int n t1)]) ?cs ?nd FE ?e ?S ?_)
    (case cs => (first | (dsimp only; done) | rfl))
    (case nd => kernel_rfl!)
    (case e => kernel_rfl!)
    (case S => with_reducible (apply Sts.cons; apply Sts.nil; (repeat (first | exact Nones.nil | apply Nones.cons)); (all_goals (repeat (first | exact St.here | apply St.there)))))
    (clear FE; intro hnd FE tk0; (try k_fold))
    k_with "cut" => ((with_reducible show wpAny _ _ (execs (Stmt.If _ _ _ ⟨148, _, _, _⟩ :: _) _) _ _ _); (rename Fr _ _ _ _ => zF); (rename News _ _ _ _ => zN); k_dflt (refine' cut1 "month" (jm n) (by assumption) zF zN ?zs1 ?_ ?_); (case zs1 => (intro t; with_reducible (repeat (first | exact St.here | apply St.there)))); (all_goals (intros; (try k_sweep); (try k_fold))))
    k_with "cut" => ((with_reducible show wpAny _ _ (execs (Stmt.If _ _ _ ⟨152, _, _, _⟩ :: _) _) _ _ _); (rename Fr _ _ _ _ => zF); (rename News _ _ _ _ => zN); k_dflt (refine' cut1 "year" (jy n) (by assumption) zF zN ?zs1 ?_ ?_); (case zs1 => (intro t; with_reducible (repeat (first | exact St.here | apply St.there)))); (all_goals (intros; (try k_sweep); (try k_fold))))
    k_with "cuteq" => with_reducible first | exact jm_a (by assumption) | exact jm_b (by assumption) | exact jy_a (by assumption) | exact jy_b (by assumption)
    k_steps
    all_goals (refine' end3 hret ?q7a ?q7b ?q7c ?q7f ?q7n ?q7m ?q7s ?q7l; (case q7f => k_asm); (case q7n => k_asm); (case q7m => k_mem); (case q7s => (first | exact fun _ h => h | exact fun _ h => .tail _ h | exact fun _ h => .tail _ (.tail _ h) | exact fun _ h => .tail _ (.tail _ (.tail _ h)) | exact fun _ h => .tail _ (.tail _ (.tail _ (.tail _ h))) | exact fun _ h => .tail _ (.tail _ (.tail _ (.tail _ (.tail _ h)))) | (intro p9 hp9; repeat (first | exact hp9 | refine List.Mem.tail _ ?_)))); (case q7l => (first | assumption | k_extra "lt" | exact allLt_of (by assumption) | exact And.right (by assumption) | (simp only [AllLt, and_true] at *; first | assumption | exact allLt_of (by assumption) | exact And.right (by assumption) | (simp_all; done)))); (case q7a => (rfl)); (case q7b => (rfl)); (case q7c => (rfl))))) only [↓wrap_true]
local macro_rules | `(tactic| walk_at "call ref") => `(tactic| (k_here; (with_reducible show wpAny _ _ (call (Value.ref 171) _) _ _ _); k_dflt (refine' use1 (from_jd_julian_spec _ _ _) ?k1a171c22 ?k2a171c22 ?k3a171c22 ?k4a171c22 ?k5a171c22 ?kKa171c22 ?kda171c22 ?kua171c22 ?kpa171c22 ?_; (case k1a171c22 => k_asm); (case k2a171c22 => k_asm); (case k3a171c22 => k_asm); (case k4a171c22 => k_asm); (case k5a171c22 => k_asm); (case kKa171c22 => first | exact rfl | assumption); (case kda171c22 => first | omega | ktr_room); (case kua171c22 => first | omega | ktr_units); (case kpa171c22 => first | trivial | assumption | omega | (constructor <;> omega) | k_extra "pre")); intro D9 t91 t92 t93 c9 h9 tk9 F9 N9 l9; (try simp only [AllLt, and_true] at l9); (try dsimp only); (try k_sweep); (try k_fold)))
def jj (y m d : Int) : Int := if m ≤ 2 then 1461 * (y - 1 + 4716) / 4 + 306001 * (m + 12 + 1) / 10000 + d - 1524 else 1461 * (y + 4716) / 4 + 306001 * (m + 1) / 10000 + d - 1524
theorem jj_a {y m d : Int} (h : m ≤ 2) : 1461 * (y - 1 + 4716) / 4 + 306001 * (m + 12 + 1) / 10000 + d - 1524 = jj y m d := by rw [jj, if_pos h]
theorem jj_b {y m d : Int} (h : ¬ m ≤ 2) : 1461 * (y + 4716) / 4 + 306001 * (m + 1) / 10000 + d - 1524 = jj y m d := by rw [jj, if_neg h]
theorem to_jd_julian_spec (news) (y m d : Int) (t1 t2 t3 : Tok) : Call1 w loose mean mg mb 4 178 news [.int y t1, .int m t2, .int d t3] (0 < d ∧ d ≤ jml y m) (RetI (jj y m d)) := by
  refine unwrap ?_
  simp (disch := k_dflt (
    k_with_none
    k_with "gl" => first | exact gl_legal_date_julian _
    dsimp only [Call1]
    intro dp un gd cn cs aF ccd cl outer A₀ base h₀ L mp s Q E B F X N T hk hdp hun hpre hret
    refine wpAny_call ?_
    k_dflt cell_enter
    (rename Fr _ _ _ _ => FE)
    (refine' startP (l' := [(Str.ofString "day", .int d t3), (Str.ofString "month", .int m t2), (Str.ofString "year", .int y t1)]) ?cs ?nd FE ?e ?S ?_)
    (case cs => (first | (dsimp only; done) | rfl))
    (case nd => kernel_rfl!)
    (case e => kernel_rfl!)
    (case S => with_reducible (apply Sts.cons; apply Sts.cons; apply Sts.cons; apply Sts.nil; (repeat (first | exact Nones.nil | apply Nones.cons)); (all_goals (repeat (first | exact St.here | apply St.there)))))
    (clear FE; intro hnd FE tk0; (try k_fold))
    k_steps
    all_goals (refine' endI hret ?q7a ?q7f ?q7n ?q7s; (case q7f => k_asm); (case q7n => k_asm); (case q7s => (first | exact fun _ h => h | exact fun _ h => .tail _ h | exact fun _ h => .tail _ (.tail _ h) | exact fun _ h => .tail _ (.tail _ (.tail _ h)) | exact fun _ h => .tail _ (.tail _ (.tail _ (.tail _ h))) | exact fun _ h => .tail _ (.tail _ (.tail _ (.tail _ (.tail _ h)))) | (intro p9 hp9; repeat (first | exact hp9 | refine List.Mem.tail _ ?_)))); (case q7a => (with_reducible first | exact jj_a (by assumption) | exact jj_b (by assumption)))))) only [↓wrap_true]
local macro_rules | `(tactic| walk_at "call ref") => `(tactic| (k_here; (with_reducible show wpAny _ _ (call (Value.ref 178) _) _ _ _); k_dflt (refine' use1 (to_jd_julian_spec _ _ _ _ _ _ _) ?k1a178c23 ?k2a178c23 ?k3a178c23 ?k4a178c23 ?k5a178c23 ?kKa178c23 ?kda178c23 ?kua178c23 ?kpa178c23 ?_; (case k1a178c23 => k_asm); (case k2a178c23 => k_asm); (case k3a178c23 => k_asm); (case k4a178c23 => k_asm); (case k5a178c23 => k_asm); (case kKa178c23 => first | exact rfl | assumption); (case kda178c23 => first | omega | ktr_room); (case kua178c23 => first | omega | ktr_units); (case kpa178c23 => first | trivial | assumption | omega | (constructor <;> omega) | k_extra "pre")); intro t9 h9 tk9 F9 N9; (try dsimp only); (try k_sweep); (try k_fold)))
theorem to_greg_julian_spec (news) (y m d : Int) (t1 t2 t3 : Tok) : Call1 w loose mean mg mb 5 185 news [.int y t1, .int m t2, .int d t3] (0 < d ∧ d ≤ jml y m) (Ret3 (cy (jj y m d)) (cm (jj y m d)) (cd (jj y m d))) := by
  refine unwrap ?_
  simp (disch := k_dflt (
    k_with_none
    k_with "gl" => first | exact gl_from_jd_gregorian _ | exact gl_to_jd_julian _
    dsimp only [Call1]
    intro dp un gd cn cs aF ccd cl outer A₀ base h₀ L mp s Q E B F X N T hk hdp hun hpre hret
    refine wpAny_call ?_
    k_dflt cell_enter
    (rename Fr _ _ _ _ => FE)
    (refine' startP (l' := [(Str.ofString "day", .int d t3), (Str.ofString "month", .int m t2), (Str.ofString "year", .int y t1)]) ?cs ?nd FE ?e ?S ?_)
    (case cs => (first | (dsimp only; done) | rfl))
    (case nd => kernel_rfl!)
    (case e => kernel_rfl!)
    (case S => with_reducible (apply Sts.cons; apply Sts.cons; apply Sts.cons; apply Sts.nil; (repeat (first | exact Nones.nil | apply Nones.cons)); (all_goals (repeat (first | exact St.here | apply St.there)))))
    (clear FE; intro hnd FE tk0; (try k_fold))
    k_steps
    all_goals (refine' end3 hret ?q7a ?q7b ?q7c ?q7f ?q7n ?q7m ?q7s ?q7l; (case q7f => k_asm); (case q7n => k_asm); (case q7m => k_mem); (case q7s => (first | exact fun _ h => h | exact fun _ h => .tail _ h | exact fun _ h => .tail _ (.tail _ h) | exact fun _ h => .tail _ (.tail _ (.tail _ h)) | exact fun _ h => .tail _ (.tail _ (.tail _ (.tail _ h))) | exact fun _ h => .tail _ (.tail _ (.tail _ (.tail _ (.tail _ h)))) | (intro p9 hp9; repeat (first | exact hp9 | refine List.Mem.tail _ ?_)))); (case q7l => (first | assumption | k_extra "lt" | exact allLt_of (by assumption) | exact And.right (by assumption) | (simp only [AllLt, and_true] at *; first | assumption | exact allLt_of (by assumption) | exact And.right (by assumption) | (simp_all; done)))); (case q7a => (rfl)); (case q7b => (rfl)); (case q7c => (rfl))))) only [↓wrap_true]
local macro_rules | `(tactic| walk_at "call ref") => `(tactic| (k_here; (with_reducible show wpAny _ _ (call (Value.ref 185) _) _ _ _); k_dflt (refine' use1 (to_greg_julian_spec _ _ _ _ _ _ _) ?k1a185c24 ?k2a185c24 ?k3a185c24 ?k4a185c24 ?k5a185c24 ?kKa185c24 ?kda185c24 ?kua185c24 ?kpa185c24 ?_; (case k1a185c24 => k_asm); (case k2a185c24 => k_asm); (case k3a185c24 => k_asm); (case k4a185c24 => k_asm); (case k5a185c24 => k_asm); (case kKa185c24 => first | exact rfl | assumption); (case kda185c24 => first | omega | ktr_room); (case kua185c24 => first | omega | ktr_units); (case kpa185c24 => first | trivial | assumption | omega | (constructor <;> omega) | k_extra "pre")); intro D9 t91 t92 t93 c9 h9 tk9 F9 N9 l9; (try simp only [AllLt, and_true] at l9); (try dsimp only); (try k_sweep); (try k_fold)))
-- islamic
def ij (y m d : Int) : Int := d + -(-59 * (m - 1) / 2) + (y - 1) * 354 + (3 + 11 * y) / 30 + 1948440 - 1
theorem to_jd_islamic_spec (news) (y m d : Int) (t1 t2 t3 : Tok) : Call1 w loose mean mg mb 1 192 news [.int y t1, .int m t2, .int d t3] True (RetI (ij y m d)) := by
  refine unwrap ?_
  simp (disch := k_dflt (
    k_with_none
    k_with "gl" => first | exact gl_EPOCH_islamic _
    dsimp only [Call1]
    intro dp un gd cn cs aF ccd cl outer A₀ base h₀ L mp s Q E B F X N T hk hdp hun hpre hret
    refine wpAny_call ?_
    k_dflt cell_enter
    (rename Fr _ _ _ _ => FE)
    (refine' startP (l' := [(Str.ofString "day", .int d t3), (Str.ofString "month", .int m t2), (Str.ofString "year", .int y t1)]) ?cs ?nd FE ?e ?S ?_)
    (case cs => (first | (dsimp only; done) | rfl))
    (case nd => kernel_rfl!)
    (case e => kernel_rfl!)
    (case S => with_reducible (apply Sts.cons; apply Sts.cons; apply Sts.cons; apply Sts.nil; (repeat (first | exact Nones.nil | apply Nones.cons)); (all_goals (repeat (first | exact St.here | apply St.there)))))
    (clear FE; intro hnd FE tk0; (try k_fold))
    k_steps
    all_goals (refine' endI hret ?q7a ?q7f ?q7n ?q7s; (case q7f => k_asm); (case q7n => k_asm); (case q7s => (first | exact fun _ h => h | exact fun _ h => .tail _ h | exact fun _ h => .tail _ (.tail _ h) | exact fun _ h => .tail _ (.tail _ (.tail _ h)) | exact fun _ h => .tail _ (.tail _ (.tail _ (.tail _ h))) | exact fun _ h => .tail _ (.tail _ (.tail _ (.tail _ (.tail _ h)))) | (intro p9 hp9; repeat (first | exact hp9 | refine List.Mem.tail _ ?_)))); (case q7a => (rfl))))) only [↓wrap_true]
local macro_rules | `(tactic| walk_at "call ref") => `(tactic| (k_here; (with_reducible show wpAny _ _ (call (Value.ref 192) _) _ _ _); k_dflt (refine' use1 (to_jd_islamic_spec _ _ _ _ _ _ _) ?k1a192c25 ?k2a192c25 ?k3a192c25 ?k4a192c25 ?k5a192c25 ?kKa192c25 ?kda192c25 ?kua192c25 ?kpa192c25 ?_; (case k1a192c25 => k_asm); (case k2a192c25 => k_asm); (case k3a192c25 => k_asm); (case k4a192c25 => k_asm); (case k5a192c25 => k_asm); (case kKa192c25 => first | exact rfl | assumption); (case kda192c25 => first | omega | ktr_room); (case kua192c25 => first | omega | ktr_units); (case kpa192c25 => first | trivial | assumption | omega | (constructor <;> omega) | k_extra "pre")); intro t9 h9 tk9 F9 N9; (try dsimp only); (try k_sweep); (try k_fold)))
def iy (n : Int) : Int := (30 * (n - 1948440) + 10646) / 10631
abbrev imx (n : Int) : Int := -(-2 * (n - (29 + ij (iy n) 1 1)) / 59) + 1
def im (n : Int) : Int := if imx n < 12 then imx n else 12
def idd (n : Int) : Int := n - ij (iy n) (im n) 1 + 1
theorem from_jd_islamic_spec (news) (n : Int) (t1 : Tok) : Call1 w loose mean mg mb 2 199 news [.int n t1] True (Ret3 (iy n) (im n) (idd n)) := by
  refine unwrap ?_
  simp (disch := k_dflt (
    k_with_none
    k_with "gl" => first | exact gl_EPOCH_islamic _ | exact gl_to_jd_islamic _
    k_with "gb" => first | exact gb_min _ | exact gb_int _
    dsimp only [Call1]
    intro dp un gd cn cs aF ccd cl outer A₀ base h₀ L mp s Q E B F X N T hk hdp hun hpre hret
    refine wpAny_call ?_
    k_dflt cell_enter
    (rename Fr _ _ _ _ => FE)
    (refine' startP (l' := [(Str.ofString "jd", .int n t1)]) ?cs ?nd FE ?e ?S ?_)
    (case cs => (first | (dsimp only; done) | rfl))
    (case nd => kernel_rfl!)
    (case e => kernel_rfl!)
    (case S => with_reducible (apply Sts.cons; apply Sts.nil; (repeat (first | exact Nones.nil | apply Nones.cons)); (all_goals (repeat (first | exact St.here | apply St.there)))))
    (clear FE; intro hnd FE tk0; (try k_fold))
    k_steps
    all_goals (refine' end3 hret ?q7a ?q7b ?q7c ?q7f ?q7n ?q7m ?q7s ?q7l; (case q7f => k_asm); (case q7n => k_asm); (case q7m => k_mem); (case q7s => (first | exact fun _ h => h | exact fun _ h => .tail _ h | exact fun _ h => .tail _ (.tail _ h) | exact fun _ h => .tail _ (.tail _ (.tail _ h)) | exact fun _ h => .tail _ (.tail _ (.tail _ (.tail _ h))) | exact fun _ h => .tail _ (.tail _ (.tail _ (.tail _ (.tail _ h)))) | (intro p9 hp9; repeat (first | exact hp9 | refine List.Mem.tail _ ?_)))); (case q7l => (first | assumption | k_extra "lt" | exact allLt_of (by assumption) | exact And.right (by assumption) | (simp only [AllLt, and_true] at *; first | assumption | exact allLt_of (by assumption) | exact And.right (by assumption) | (simp_all; done)))); (case q7a => (rfl)); (case q7b => (rfl)); (case q7c => (rfl))))) only [↓wrap_true]
local macro_rules | `(tactic| walk_at "call ref") => `(tactic| (k_here; (with_reducible show wpAny _ _ (call (Value.ref 199) _) _ _ _); k_dflt (refine' use1 (from_jd_islamic_spec _ _ _) ?k1a199c26 ?k2a199c26 ?k3a199c26 ?k4a199c26 ?k5a199c26 ?kKa199c26 ?kda199c26 ?kua199c26 ?kpa199c26 ?_; (case k1a199c26 => k_asm); (case k2a199c26 => k_asm); (case k3a199c26 => k_asm); (case k4a199c26 => k_asm); (case k5a199c26 => k_asm); (case kKa199c26 => first | exact rfl | assumption); (case kda199c26 => first | omega | ktr_room); (case kua199c26 => first | omega | ktr_units); (case kpa199c26 => first | trivial | assumption | omega | (constructor <;> omega) | k_extra "pre")); intro D9 t91 t92 t93 c9 h9 tk9 F9 N9 l9; (try simp only [AllLt, and_true] at l9); (try dsimp only); (try k_sweep); (try k_fold)))
theorem to_greg_islamic_spec (news) (y m d : Int) (t1 t2 t3 : Tok) : Call1 w loose mean mg mb 5 206 news [.int y t1, .int m t2, .int d t3] True (Ret3 (cy (ij y m d)) (cm (ij y m d)) (cd (ij y m d))) := by
  refine unwrap ?_
  simp (disch := k_dflt (
    k_with_none
    k_with "gl" => first | exact gl_from_jd_gregorian _ | exact gl_to_jd_islamic _
    dsimp only [Call1]
    intro dp un gd cn cs aF ccd cl outer A₀ base h₀ L mp s Q E B F X N T hk hdp hun hpre hret
    refine wpAny_call ?_
    k_dflt cell_enter
    (rename Fr _ _ _ _ => FE)
    (refine' startP (l' := [(Str.ofString "day", .int d t3), (Str.ofString "month", .int m t2), (Str.ofString "year", .int y t1)]) ?cs ?nd FE ?e ?S ?_)
    (case cs => (first | (dsimp only; done) | rfl))
    (case nd => kernel_rfl!)
    (case e => kernel_rfl!)
    (case S => with_reducible (apply Sts.cons; apply Sts.cons; apply Sts.cons; apply Sts.nil; (repeat (first | exact Nones.nil | apply Nones.cons)); (all_goals (repeat (first | exact St.here | apply St.there)))))
    (clear FE; intro hnd FE tk0; (try k_fold))
    k_steps
    all_goals (refine' end3 hret ?q7a ?q7b ?q7c ?q7f ?q7n ?q7m ?q7s ?q7l; (case q7f => k_asm); (case q7n => k_asm); (case q7m => k_mem); (case q7s => (first | exact fun _ h => h | exact fun _ h => .tail _ h | exact fun _ h => .tail _ (.tail _ h) | exact fun _ h => .tail _ (.tail _ (.tail _ h)) | exact fun _ h => .tail _ (.tail _ (.tail _ (.tail _ h))) | exact fun _ h => .tail _ (.tail _ (.tail _ (.tail _ (.tail _ h)))) | (intro p9 hp9; repeat (first | exact hp9 | refine List.Mem.tail _ ?_)))); (case q7l => (first | assumption | k_extra "lt" | exact allLt_of (by assumption) | exact And.right (by assumption) | (simp only [AllLt, and_true] at *; first | assumption | exact allLt_of (by assumption) | exact And.right (by assumption) | (simp_all; done)))); (case q7a => (rfl)); (case q7b => (rfl)); (case q7c => (rfl))))) only [↓wrap_true]
local macro_rules | `(tactic| walk_at "call ref") => `(tactic| (k_here; (with_reducible show wpAny _ _ (call (Value.ref 206) _) _ _ _); k_dflt (refine' use1 (to_greg_islamic_spec _ _ _ _ _ _ _) ?k1a206c27 ?k2a206c27 ?k3a206c27 ?k4a206c27 ?k5a206c27 ?kKa206c27 ?kda206c27 ?kua206c27 ?kpa206c27 ?_; (case k1a206c27 => k_asm); (case k2a206c27 => k_asm); (case k3a206c27 => k_asm); (case k4a206c27 => k_asm); (case k5a206c27 => k_asm); (case kKa206c27 => first | exact rfl | assumption); (case kda206c27 => first | omega | ktr_room); (case kua206c27 => first | omega | ktr_units); (case kpa206c27 => first | trivial | assumption | omega | (constructor <;> omega) | k_extra "pre")); intro D9 t91 t92 t93 c9 h9 tk9 F9 N9 l9; (try simp only [AllLt, and_true] at l9); (try dsimp only); (try k_sweep); (try k_fold)))
-- coptic
def kj (y m d : Int) : Int := d + (m - 1) * 30 + (y - 1) * 365 + y / 4 + 1825030 - 1
theorem to_jd_coptic_spec (news) (y m d : Int) (t1 t2 t3 : Tok) : Call1 w loose mean mg mb 1 213 news [.int y t1, .int m t2, .int d t3] True (RetI (kj y m d)) := by
  refine unwrap ?_
  simp (disch := k_dflt (
    k_with_none
    k_with "gl" => first | exact gl_EPOCH_coptic _
    dsimp only [Call1]
    intro dp un gd cn cs aF ccd cl outer A₀ base h₀ L mp s Q E B F X N T hk hdp hun hpre hret
    refine wpAny_call ?_
    k_dflt cell_enter
    (rename Fr _ _ _ _ => FE)
    (refine' startP (l' := [(Str.ofString "day", .int d t3), (Str.ofString "month", .int m t2), (Str.ofString "year", .int y t1)]) ?cs ?nd FE ?e ?S ?_)
    (case cs => (first | (dsimp only; done) | rfl))
    (case nd => kernel_rfl!)
    (case e => kernel_rfl!)
    (case S => with_reducible (apply Sts.cons; apply Sts.cons; apply Sts.cons; apply Sts.nil; (repeat (first | exact Nones.nil | apply Nones.cons)); (all_goals (repeat (first | exact St.here | apply St.there)))))
    (clear FE; intro hnd FE tk0; (try k_fold))
    k_steps
    all_goals (refine' endI hret ?q7a ?q7f ?q7n ?q7s; (case q7f => k_asm); (case q7n => k_asm); (case q7s => (first | exact fun _ h => h | exact fun _ h => .tail _ h | exact fun _ h => .tail _ (.tail _ h) | exact fun _ h => .tail _ (.tail _ (.tail _ h)) | exact fun _ h => .tail _ (.tail _ (.tail _ (.tail _ h))) | exact fun _ h => .tail _ (.tail _ (.tail _ (.tail _ (.tail _ h)))) | (intro p9 hp9; repeat (first | exact hp9 | refine List.Mem.tail _ ?_)))); (case q7a => (rfl))))) only [↓wrap_true]
local macro_rules | `(tactic| walk_at "call ref") => `(tactic| (k_here; (with_reducible show wpAny _ _ (call (Value.ref 213) _) _ _ _); k_dflt (refine' use1 (to_jd_coptic_spec _ _ _ _ _ _ _) ?k1a213c28 ?k2a213c28 ?k3a213c28 ?k4a213c28 ?k5a213c28 ?kKa213c28 ?kda213c28 ?kua213c28 ?kpa213c28 ?_; (case k1a213c28 => k_asm); (case k2a213c28 => k_asm); (case k3a213c28 => k_asm); (case k4a213c28 => k_asm); (case k5a213c28 => k_asm); (case kKa213c28 => first | exact rfl | assumption); (case kda213c28 => first | omega | ktr_room); (case kua213c28 => first | omega | ktr_units); (case kpa213c28 => first | trivial | assumption | omega | (constructor <;> omega) | k_extra "pre")); intro t9 h9 tk9 F9 N9; (try dsimp only); (try k_sweep); (try k_fold)))
def ky (n : Int) : Int := (4 * (n - 1825030) + 1463) / 1461
abbrev kyd (n : Int) : Int := n - kj (ky n) 1 1
def km (n : Int) : Int := kyd n / 30 + 1
def kd (n : Int) : Int := kyd n - (km n - 1) * 30 + 1
theorem from_jd_coptic_spec (news) (n : Int) (t1 : Tok) : Call1 w loose mean mg mb 2 220 news [.int n t1] True (Ret3 (ky n) (km n) (kd n)) := by
  refine unwrap ?_
  simp (disch := k_dflt (
    k_with_none
    k_with "gl" => first | exact gl_to_jd_coptic _ | exact gl_EPOCH_coptic _
    k_with "gb" => first | exact gb_int _
    dsimp only [Call1]
    intro dp un gd cn cs aF ccd cl outer A₀ base h₀ L mp s Q E B F X N T hk hdp hun hpre hret
    refine wpAny_call ?_
    k_dflt cell_enter
    (rename Fr _ _ _ _ => FE)
    (refine' startP (l' := [(Str.ofString "jdc", .int n t1)]) ?cs ?nd FE ?e ?S ?_)
    (case cs => (first | (dsimp only; done) | rfl))
    (case nd => kernel_rfl!)
    (case e => kernel_rfl!)
    (case S => with_reducible (apply Sts.cons; apply Sts.nil; (repeat (first | exact Nones.nil | apply Nones.cons)); (all_goals (repeat (first | exact St.here | apply St.there)))))
    (clear FE; intro hnd FE tk0; (try k_fold))
    k_steps
    all_goals (refine' end3 hret ?q7a ?q7b ?q7c ?q7f ?q7n ?q7m ?q7s ?q7l; (case q7f => k_asm); (case q7n => k_asm); (case q7m => k_mem); (case q7s => (first | exact fun _ h => h | exact fun _ h => .tail _ h | exact fun _ h => .tail _ (.tail _ h) | exact fun _ h => .tail _ (.tail _ (.tail _ h)) | exact fun _ h => .tail _ (.tail _ (.tail _ (.tail _ h))) | exact fun _ h => .tail _ (.tail _ (.tail _ (.tail _ (.tail _ h)))) | (intro p9 hp9; repeat (first | exact hp9 | refine List.Mem.tail _ ?_)))); (case q7l => (first | assumption | k_extra "lt" | exact allLt_of (by assumption) | exact And.right (by assumption) | (simp only [AllLt, and_true] at *; first | assumption | exact allLt_of (by assumption) | exact And.right (by assumption) | (simp_all; done)))); (case q7a => (rfl)); (case q7b => (rfl)); (case q7c => (rfl))))) only [↓wrap_true]
local macro_rules | `(tactic| walk_at "call ref") => `(tactic| (k_here; (with_reducible show wpAny _ _ (call (Value.ref 220) _) _ _ _); k_dflt (refine' use1 (from_jd_coptic_spec _ _ _) ?k1a220c29 ?k2a220c29 ?k3a220c29 ?k4a220c29 ?k5a220c29 ?kKa220c29 ?kda220c29 ?kua220c29 ?kpa220c29 ?_; (case k1a220c29 => k_asm); (case k2a220c29 => k_asm); (case k3a220c29 => k_asm); (case k4a220c29 => k_asm); (case k5a220c29 => k_asm); (case kKa220c29 => first | exact rfl | assumption); (case kda220c29 => first | omega | ktr_room); (case kua220c29 => first | omega | ktr_units); (case kpa220c29 => first | trivial | assumption | omega | (constructor <;> omega) | k_extra "pre")); intro D9 t91 t92 t93 c9 h9 tk9 F9 N9 l9; (try simp only [AllLt, and_true] at l9); (try dsimp only); (try k_sweep); (try k_fold)))
theorem to_greg_coptic_spec (news) (y m d : Int) (t1 t2 t3 : Tok) : Call1 w loose mean mg mb 5 227 news [.int y t1, .int m t2, .int d t3] True (Ret3 (cy (kj y m d)) (cm (kj y m d)) (cd (kj y m d))) := by
  refine unwrap ?_
  simp (disch := k_dflt (
    k_with_none
    k_with "gl" => first | exact gl_from_jd_gregorian _ | exact gl_to_jd_coptic _
    dsimp only [Call1]
    intro dp un gd cn cs aF ccd cl outer A₀ base h₀ L mp s Q E B F X N T hk hdp hun hpre hret
    refine wpAny_call ?_
    k_dflt cell_enter
    (rename Fr _ _ _ _ => FE)
    (refine' startP (l' := [(Str.ofString "day", .int d t3), (Str.ofString "month", .int m t2), (Str.ofString "year", .int y t1)]) ?cs ?nd FE ?e ?S ?_)
    (case cs => (first | (dsimp only; done) | rfl))
    (case nd => kernel_rfl!)
    (case e => kernel_rfl!)
    (case S => with_reducible (apply Sts.cons; apply Sts.cons; apply Sts.cons; apply Sts.nil; (repeat (first | exact Nones.nil | apply Nones.cons)); (all_goals (repeat (first | exact St.here | apply St.there)))))
    (clear FE; intro hnd FE tk0; (try k_fold))
    k_steps
    all_goals (refine' end3 hret ?q7a ?q7b ?q7c ?q7f ?q7n ?q7m ?q7s ?q7l; (case q7f => k_asm); (case q7n => k_asm); (case q7m => k_mem); (case q7s => (first | exact fun _ h => h | exact fun _ h => .tail _ h | exact fun _ h => .tail _ (.tail _ h) | exact fun _ h => .tail _ (.tail _ (.tail _ h)) | exact fun _ h => .tail _ (.tail _ (.tail _ (.tail _ h))) | exact fun _ h => .tail _ (.tail _ (.tail _ (.tail _ (.tail _ h)))) | (intro p9 hp9; repeat (first | exact hp9 | refine List.Mem.tail _ ?_)))); (case q7l => (first | assumption | k_extra "lt" | exact allLt_of (by assumption) | exact And.right (by assumption) | (simp only [AllLt, and_true] at *; first | assumption | exact allLt_of (by assumption) | exact And.right (by assumption) | (simp_all; done)))); (case q7a => (rfl)); (case q7b => (rfl)); (case q7c => (rfl))))) only [↓wrap_true]
local macro_rules | `(tactic| walk_at "call ref") => `(tactic| (k_here; (with_reducible show wpAny _ _ (call (Value.ref 227) _) _ _ _); k_dflt (refine' use1 (to_greg_coptic_spec _ _ _ _ _ _ _) ?k1a227c30 ?k2a227c30 ?k3a227c30 ?k4a227c30 ?k5a227c30 ?kKa227c30 ?kda227c30 ?kua227c30 ?kpa227c30 ?_; (case k1a227c30 => k_asm); (case k2a227c30 => k_asm); (case k3a227c30 => k_asm); (case k4a227c30 => k_asm); (case k5a227c30 => k_asm); (case kKa227c30 => first | exact rfl | assumption); (case kda227c30 => first | omega | ktr_room); (case kua227c30 => first | omega | ktr_units); (case kpa227c30 => first | trivial | assumption | omega | (constructor <;> omega) | k_extra "pre")); intro D9 t91 t92 t93 c9 h9 tk9 F9 N9 l9; (try simp only [AllLt, and_true] at l9); (try dsimp only); (try k_sweep); (try k_fold)))

-- A7
abbrev Ret5 (x y z u v : Int) (h₀ : Heap) (L : Addr) (m : Str → Option Value) (news : List (Addr × Obj)) (s : Shared) (Q : Value → Shared → Prop) : Prop :=
  ∀ (D : Addr) (t1 t2 t3 t4 t5 : Tok) (c : Nat) (h' : Heap) (tk' : Nat), Fr h₀ L h' m → News h₀ L h' ((D, tup5 x y z u v t1 t2 t3 t4 t5 c) :: news) → AllLt D news → Q (.ref D) { s with heap := h', toks := tk' }
theorem end5 {h₀ h' : Heap} {L : Addr} {m : Str → Option Value} {news news' : List (Addr × Obj)} {s : Shared} {Q : Value → Shared → Prop} {tk' : Nat} {x y z u v x' y' z' u' v' : Int} {t1 t2 t3 t4 t5 : Tok} {c : Nat} {D : Addr} (hret : Ret5 x y z u v h₀ L m news s Q) (e1 : x' = x) (e2 : y' = y) (e3 : z' = z) (e4 : u' = u) (e5 : v' = v) (F : Fr h₀ L h' m) (N : News h₀ L h' news') (hm : (D, tup5 x' y' z' u' v' t1 t2 t3 t4 t5 c) ∈ news') (hn : ∀ p ∈ news, p ∈ news') (hl : AllLt D news) : Q (.ref D) { s with heap := h', toks := tk' } := by
  subst e1; subst e2; subst e3; subst e4; subst e5
  exact hret D t1 t2 t3 t4 t5 c h' tk' F (fun p hp => by
    rcases List.mem_cons.mp hp with rfl | hp
    · exact N _ hm
    · exact N p (hn p hp)) hl
-- mayan
def vj (b k t u i : Int) : Int := 584283 + b * 144000 + k * 7200 + t * 360 + u * 20 + i
theorem to_jd_mayan_spec (news) (b k t u i : Int) (t1 t2 t3 t4 t5 : Tok) : Call1 w loose mean mg mb 1 255 news [.int b t1, .int k t2, .int t t3, .int u t4, .int i t5] True (RetI (vj b k t u i)) := by
  refine unwrap ?_
  simp (disch := k_dflt (
    k_with_none
    k_with "gl" => first | exact gl_EPOCH_mayan _
    dsimp only [Call1]
    intro dp un gd cn cs aF ccd cl outer A₀ base h₀ L mp s Q E B F X N T hk hdp hun hpre hret
    refine wpAny_call ?_
    k_dflt cell_enter
    (rename Fr _ _ _ _ => FE)
    (refine' startP (l' := [(Str.ofString "kin", .int i t5), (Str.ofString "uinal", .int u t4), (Str.ofString "tun", .int t t3), (Str.ofString "katun", .int k t2), (Str.ofString "baktun", .int b t1)]) ?cs ?nd FE ?e ?S ?_)
    (case cs => (first | (dsimp only; done) | rfl))
    (case nd => kernel_rfl!)
    (case e => kernel_rfl!)
    (case S => with_reducible (apply Sts.cons; apply Sts.cons; apply Sts.cons; apply Sts.cons; apply Sts.cons; apply Sts.nil; (repeat (first | exact Nones.nil | apply Nones.cons)); (all_goals (repeat (first | exact St.here | apply St.there)))))
    (clear FE; intro hnd FE tk0; (try k_fold))
    k_steps
    all_goals (refine' endI hret ?q7a ?q7f ?q7n ?q7s; (case q7f => k_asm); (case q7n => k_asm); (case q7s => (first | exact fun _ h => h | exact fun _ h => .tail _ h | exact fun _ h => .tail _ (.tail _ h) | exact fun _ h => .tail _ (.tail _ (.tail _ h)) | exact fun _ h => .tail _ (.tail _ (.tail _ (.tail _ h))) | exact fun _ h => .tail _ (.tail _ (.tail _ (.tail _ (.tail _ h)))) | (intro p9 hp9; repeat (first | exact hp9 | refine List.Mem.tail _ ?_)))); (case q7a => (rfl))))) only [↓wrap_true]
local macro_rules | `(tactic| walk_at "call ref") => `(tactic| (k_here; (with_reducible show wpAny _ _ (call (Value.ref 255) _) _ _ _); k_dflt (refine' use1 (to_jd_mayan_spec _ _ _ _ _ _ _ _ _ _ _) ?k1a255c31 ?k2a255c31 ?k3a255c31 ?k4a255c31 ?k5a255c31 ?kKa255c31 ?kda255c31 ?kua255c31 ?kpa255c31 ?_; (case k1a255c31 => k_asm); (case k2a255c31 => k_asm); (case k3a255c31 => k_asm); (case k4a255c31 => k_asm); (case k5a255c31 => k_asm); (case kKa255c31 => first | exact rfl | assumption); (case kda255c31 => first | omega | ktr_room); (case kua255c31 => first | omega | ktr_units); (case kpa255c31 => first | trivial | assumption | omega | (constructor <;> omega) | k_extra "pre")); intro t9 h9 tk9 F9 N9; (try dsimp only); (try k_sweep); (try k_fold)))
def v1 (n : Int) : Int := (n - 584283) / 144000
def v2 (n : Int) : Int := (n - 584283) % 144000 / 7200
def v3 (n : Int) : Int := (n - 584283) % 144000 % 7200 / 360
def v4 (n : Int) : Int := (n - 584283) % 144000 % 7200 % 360 / 20
def v5 (n : Int) : Int := (n - 584283) % 144000 % 7200 % 360 % 20
theorem from_jd_mayan_spec (news) (n : Int) (t1 : Tok) : Call1 w loose mean mg mb 1 262 news [.int n t1] (584283 ≤ n) (Ret5 (v1 n) (v2 n) (v3 n) (v4 n) (v5 n)) := by
  refine unwrap ?_
  simp (disch := k_dflt (
    k_with_none
    k_with "gl" => first | exact gl_EPOCH_mayan _
    k_with "gb" => first | exact gb_int _ | exact gb_ValueError _
    dsimp only [Call1]
    intro dp un gd cn cs aF ccd cl outer A₀ base h₀ L mp s Q E B F X N T hk hdp hun hpre hret
    refine wpAny_call ?_
    k_dflt cell_enter
    (rename Fr _ _ _ _ => FE)
    (refine' startP (l' := [(Str.ofString "jd", .int n t1)]) ?cs ?nd FE ?e ?S ?_)
    (case cs => (first | (dsimp only; done) | rfl))
    (case nd => kernel_rfl!)
    (case e => kernel_rfl!)
    (case S => with_reducible (apply Sts.cons; apply Sts.nil; (repeat (first | exact Nones.nil | apply Nones.cons)); (all_goals (repeat (first | exact St.here | apply St.there)))))
    (clear FE; intro hnd FE tk0; (try k_fold))
    k_with "raise" => omega
    k_steps
    all_goals (refine' end5 hret ?q7a ?q7b ?q7c ?q7d ?q7e ?q7f ?q7n ?q7m ?q7s ?q7l; (case q7f => k_asm); (case q7n => k_asm); (case q7m => k_mem); (case q7s => (first | exact fun _ h => h | exact fun _ h => .tail _ h | exact fun _ h => .tail _ (.tail _ h) | exact fun _ h => .tail _ (.tail _ (.tail _ h)) | exact fun _ h => .tail _ (.tail _ (.tail _ (.tail _ h))) | exact fun _ h => .tail _ (.tail _ (.tail _ (.tail _ (.tail _ h)))) | (intro p9 hp9; repeat (first | exact hp9 | refine List.Mem.tail _ ?_)))); (case q7l => (first | assumption | k_extra "lt" | exact allLt_of (by assumption) | exact And.right (by assumption) | (simp only [AllLt, and_true] at *; first | assumption | exact allLt_of (by assumption) | exact And.right (by assumption) | (simp_all; done)))); (case q7a => (rfl)); (case q7b => (rfl)); (case q7c => (rfl)); (case q7d => (rfl)); (case q7e => (rfl))))) only [↓wrap_true]
local macro_rules | `(tactic| walk_at "call ref") => `(tactic| (k_here; (with_reducible show wpAny _ _ (call (Value.ref 262) _) _ _ _); k_dflt (refine' use1 (from_jd_mayan_spec _ _ _) ?k1a262c32 ?k2a262c32 ?k3a262c32 ?k4a262c32 ?k5a262c32 ?kKa262c32 ?kda262c32 ?kua262c32 ?kpa262c32 ?_; (case k1a262c32 => k_asm); (case k2a262c32 => k_asm); (case k3a262c32 => k_asm); (case k4a262c32 => k_asm); (case k5a262c32 => k_asm); (case kKa262c32 => first | exact rfl | assumption); (case kda262c32 => first | omega | ktr_room); (case kua262c32 => first | omega | ktr_units); (case kpa262c32 => first | trivial | assumption | omega | (constructor <;> omega) | k_extra "pre")); intro D9 t91 t92 t93 t94 t95 c9 h9 tk9 F9 N9 l9; (try simp only [AllLt, and_true] at l9); (try dsimp only); (try k_sweep); (try k_fold)))
theorem to_greg_mayan_spec (news) (b k t u i : Int) (t1 t2 t3 t4 t5 : Tok) : Call1 w loose mean mg mb 5 269 news [.int b t1, .int k t2, .int t t3, .int u t4, .int i t5] True (Ret3 (cy (vj b k t u i)) (cm (vj b k t u i)) (cd (vj b k t u i))) := by
  refine unwrap ?_
  simp (disch := k_dflt (
    k_with_none
    k_with "gl" => first | exact gl_to_jd_mayan _ | exact gl_from_jd_gregorian _
    dsimp only [Call1]
    intro dp un gd cn cs aF ccd cl outer A₀ base h₀ L mp s Q E B F X N T hk hdp hun hpre hret
    refine wpAny_call ?_
    k_dflt cell_enter
    (rename Fr _ _ _ _ => FE)
    (refine' startP (l' := [(Str.ofString "kin", .int i t5), (Str.ofString "uinal", .int u t4), (Str.ofString "tun", .int t t3), (Str.ofString "katun", .int k t2), (Str.ofString "baktun", .int b t1)]) ?cs ?nd FE ?e ?S ?_)
    (case cs => (first | (dsimp only; done) | rfl))
    (case nd => kernel_rfl!)
    (case e => kernel_rfl!)
    (case S => with_reducible (apply Sts.cons; apply Sts.cons; apply Sts.cons; apply Sts.cons; apply Sts.cons; apply Sts.nil; (repeat (first | exact Nones.nil | apply Nones.cons)); (all_goals (repeat (first | exact St.here | apply St.there)))))
    (clear FE; intro hnd FE tk0; (try k_fold))
    k_steps
    all_goals (refine' end3 hret ?q7a ?q7b ?q7c ?q7f ?q7n ?q7m ?q7s ?q7l; (case q7f => k_asm); (case q7n => k_asm); (case q7m => k_mem); (case q7s => (first | exact fun _ h => h | exact fun _ h => .tail _ h | exact fun _ h => .tail _ (.tail _ h) | exact fun _ h => .tail _ (.tail _ (.tail _ h)) | exact fun _ h => .tail _ (.tail _ (.tail _ (.tail _ h))) | exact fun _ h => .tail _ (.tail _ (.tail _ (.tail _ (.tail _ h)))) | (intro p9 hp9; repeat (first | exact hp9 | refine List.Mem.tail _ ?_)))); (case q7l => (first | assumption | k_extra "lt" | exact allLt_of (by assumption) | exact And.right (by assumption) | (simp only [AllLt, and_true] at *; first | assumption | exact allLt_of (by assumption) | exact And.right (by assumption) | (simp_all; done)))); (case q7a => (rfl)); (case q7b => (rfl)); (case q7c => (rfl))))) only [↓wrap_true]
local macro_rules | `(tactic| walk_at "call ref") => `(tactic| (k_here; (with_reducible show wpAny _ _ (call (Value.ref 269) _) _ _ _); k_dflt (refine' use1 (to_greg_mayan_spec _ _ _ _ _ _ _ _ _ _ _) ?k1a269c33 ?k2a269c33 ?k3a269c33 ?k4a269c33 ?k5a269c33 ?kKa269c33 ?kda269c33 ?kua269c33 ?kpa269c33 ?_; (case k1a269c33 => k_asm); (case k2a269c33 => k_asm); (case k3a269c33 => k_asm); (case k4a269c33 => k_asm); (case k5a269c33 => k_asm); (case kKa269c33 => first | exact rfl | assumption); (case kda269c33 => first | omega | ktr_room); (case kua269c33 => first | omega | ktr_units); (case kpa269c33 => first | trivial | assumption | omega | (constructor <;> omega) | k_extra "pre")); intro D9 t91 t92 t93 c9 h9 tk9 F9 N9 l9; (try simp only [AllLt, and_true] at l9); (try dsimp only); (try k_sweep); (try k_fold)))
-- indian
def nca (l : Bool) : Int := if l then 31 else 30
theorem nca_a {l : Bool} (h : l = true) : 31 = nca l := by subst h; rfl
theorem nca_b {l : Bool} (h : l = false) : 30 = nca l := by subst h; rfl
abbrev nst (y : Int) : Int := gjd (y + 78) 3 (22 - if isleap (y + 78) = true then 1 else 0)
def nj (y m d : Int) : Int := if m = 1 then nst y + (d - 1) else if 8 ≤ m then nst y + nca (isleap (y + 78)) + (if 5 < m - 2 then 5 else m - 2) * 31 + (m - 7) * 30 + (d - 1) else nst y + nca (isleap (y + 78)) + (if 5 < m - 2 then 5 else m - 2) * 31 + (d - 1)
theorem nj_a {y m d : Int} (h : m = 1) : nst y + (d - 1) = nj y m d := by rw [nj, if_pos h]
theorem nj_b {y m d : Int} (h : m ≠ 1) (h2 : 8 ≤ m) : nst y + nca (isleap (y + 78)) + (if 5 < m - 2 then 5 else m - 2) * 31 + (m - 7) * 30 + (d - 1) = nj y m d := by rw [nj, if_neg h, if_pos h2]
theorem nj_c {y m d : Int} (h : m ≠ 1) (h2 : ¬ 8 ≤ m) : nst y + nca (isleap (y + 78)) + (if 5 < m - 2 then 5 else m - 2) * 31 + (d - 1) = nj y m d := by rw [nj, if_neg h, if_neg h2]
theorem nst_pre (y : Int) : 0 < 22 - (if isleap (y + 78) = true then (1 : Int) else 0) ∧ 22 - (if isleap (y + 78) = true then (1 : Int) else 0) ≤ mlen (y + 78) 3 := by
  unfold mlen; split <;> simp
theorem to_jd_indian_spec (news) (y m d : Int) (t1 t2 t3 : Tok) : Call1 w loose mean mg mb 4 234 news [.int y t1, .int m t2, .int d t3] True (RetI (nj y m d)) := by
  refine unwrap ?_
  simp (disch := k_dflt (
    k_with_none
    k_with "gl" => first | exact gl_isleap _ | exact gl_to_jd_gregorian _
    k_with "gb" => first | exact gb_min _
    dsimp only [Call1]
    intro dp un gd cn cs aF ccd cl outer A₀ base h₀ L mp s Q E B F X N T hk hdp hun hpre hret
    refine wpAny_call ?_
    k_dflt cell_enter
    (rename Fr _ _ _ _ => FE)
    (refine' startP (l' := [(Str.ofString "day", .int d t3), (Str.ofString "month", .int m t2), (Str.ofString "year", .int y t1)]) ?cs ?nd FE ?e ?S ?_)
    (case cs => (first | (dsimp only; done) | rfl))
    (case nd => kernel_rfl!)
    (case e => kernel_rfl!)
    (case S => with_reducible (apply Sts.cons; apply Sts.cons; apply Sts.cons; apply Sts.nil; (repeat (first | exact Nones.nil | apply Nones.cons)); (all_goals (repeat (first | exact St.here | apply St.there)))))
    (clear FE; intro hnd FE tk0; (try k_fold))
    k_with "cut" => ((with_reducible show wpAny _ _ (execs (Stmt.If _ _ _ ⟨204, _, _, _⟩ :: _) _) _ _ _); (rename Fr _ _ _ _ => zF); (rename News _ _ _ _ => zN); k_dflt (refine' cut1 "caitra" (nca (isleap (y + 78))) (by assumption) zF zN ?zs1 ?_ ?_); (case zs1 => (intro t; with_reducible (repeat (first | exact St.here | apply St.there)))); (all_goals (intros; (try k_sweep); (try k_fold))))
    k_with "cuteq" => with_reducible first | exact nca_a (by assumption) | exact nca_b (by assumption)
    k_with "pre" => exact nst_pre y
    k_steps
    all_goals (refine' endI hret ?q7a ?q7f ?q7n ?q7s; (case q7f => k_asm); (case q7n => k_asm); (case q7s => (first | exact fun _ h => h | exact fun _ h => .tail _ h | exact fun _ h => .tail _ (.tail _ h) | exact fun _ h => .tail _ (.tail _ (.tail _ h)) | exact fun _ h => .tail _ (.tail _ (.tail _ (.tail _ h))) | exact fun _ h => .tail _ (.tail _ (.tail _ (.tail _ (.tail _ h)))) | (intro p9 hp9; repeat (first | exact hp9 | refine List.Mem.tail _ ?_)))); (case q7a => (with_reducible first | exact nj_a (by assumption) | exact nj_b (by assumption) (by assumption) | exact nj_c (by assumption) (by assumption)))))) only [↓wrap_true]
local macro_rules | `(tactic| walk_at "call ref") => `(tactic| (k_here; (with_reducible show wpAny _ _ (call (Value.ref 234) _) _ _ _); k_dflt (refine' use1 (to_jd_indian_spec _ _ _ _ _ _ _) ?k1a234c34 ?k2a234c34 ?k3a234c34 ?k4a234c34 ?k5a234c34 ?kKa234c34 ?kda234c34 ?kua234c34 ?kpa234c34 ?_; (case k1a234c34 => k_asm); (case k2a234c34 => k_asm); (case k3a234c34 => k_asm); (case k4a234c34 => k_asm); (case k5a234c34 => k_asm); (case kKa234c34 => first | exact rfl | assumption); (case kda234c34 => first | omega | ktr_room); (case kua234c34 => first | omega | ktr_units); (case kpa234c34 => first | trivial | assumption | omega | (constructor <;> omega) | k_extra "pre")); intro t9 h9 tk9 F9 N9; (try dsimp only); (try k_sweep); (try k_fold)))
def ny (n : Int) : Int := if yday n < 80 then cy n - 78 - 1 else cy n - 78
def nk (n : Int) : Int := if yday n < 80 then yday n + (nca (isleap (cy n)) + 31 * 5 + 30 * 3 + 10 + 80) else yday n
def nmm (n : Int) : Int := if nk n - 80 < nca (isleap (cy n)) then 1 else if nk n - 80 - nca (isleap (cy n)) < 31 * 5 then (nk n - 80 - nca (isleap (cy n))) / 31 + 2 else (nk n - 80 - nca (isleap (cy n)) - 31 * 5) / 30 + 7
def ndd (n : Int) : Int := if nk n - 80 < nca (isleap (cy n)) then nk n - 80 + 1 else if nk n - 80 - nca (isleap (cy n)) < 31 * 5 then (nk n - 80 - nca (isleap (cy n))) % 31 + 1 else (nk n - 80 - nca (isleap (cy n)) - 31 * 5) % 30 + 1
theorem ny_a {n : Int} (h : n - gjd (cy n) 1 1 < 80) : cy n - 78 - 1 = ny n := (if_pos h).symm
theorem ny_b {n : Int} (h : ¬ n - gjd (cy n) 1 1 < 80) : cy n - 78 = ny n := (if_neg h).symm
theorem nk_a {n : Int} (h : n - gjd (cy n) 1 1 < 80) : n - gjd (cy n) 1 1 + (nca (isleap (cy n)) + 31 * 5 + 30 * 3 + 10 + 80) = nk n := (if_pos h).symm
theorem nk_b {n : Int} (h : ¬ n - gjd (cy n) 1 1 < 80) : n - gjd (cy n) 1 1 = nk n := (if_neg h).symm
theorem nmm_a {n : Int} (h : nk n - 80 < nca (isleap (cy n))) : 1 = nmm n := by rw [nmm, if_pos h]
theorem nmm_b {n : Int} (h : ¬ nk n - 80 < nca (isleap (cy n))) (h2 : nk n - 80 - nca (isleap (cy n)) < 31 * 5) : (nk n - 80 - nca (isleap (cy n))) / 31 + 2 = nmm n := by rw [nmm, if_neg h, if_pos h2]
theorem nmm_c {n : Int} (h : ¬ nk n - 80 < nca (isleap (cy n))) (h2 : ¬ nk n - 80 - nca (isleap (cy n)) < 31 * 5) : (nk n - 80 - nca (isleap (cy n)) - 31 * 5) / 30 + 7 = nmm n := by rw [nmm, if_neg h, if_neg h2]
theorem ndd_a {n : Int} (h : nk n - 80 < nca (isleap (cy n))) : nk n - 80 + 1 = ndd n := by rw [ndd, if_pos h]
theorem ndd_b {n : Int} (h : ¬ nk n - 80 < nca (isleap (cy n))) (h2 : nk n - 80 - nca (isleap (cy n)) < 31 * 5) : (nk n - 80 - nca (isleap (cy n))) % 31 + 1 = ndd n := by rw [ndd, if_neg h, if_pos h2]
theorem ndd_c {n : Int} (h : ¬ nk n - 80 < nca (isleap (cy n))) (h2 : ¬ nk n - 80 - nca (isleap (cy n)) < 31 * 5) : (nk n - 80 - nca (isleap (cy n)) - 31 * 5) % 30 + 1 = ndd n := by rw [ndd, if_neg h, if_neg h2]
theorem from_jd_indian_spec (news) (n : Int) (t1 : Tok) : Call1 w loose mean mg mb 5 241 news [.int n t1] True (Ret3 (ny n) (nmm n) (ndd n)) := by
  refine unwrap ?_
  simp (disch := k_dflt (
    k_with_none
    k_with "gl" => first | exact gl_from_jd_gregorian _ | exact gl_isleap _ | exact gl_SAKA_EPOCH _ | exact gl_to_jd_gregorian _
    k_with "gb" => first | exact gb_int _
    dsimp only [Call1]
    intro dp un gd cn cs aF ccd cl outer A₀ base h₀ L mp s Q E B F X N T hk hdp hun hpre hret
    refine wpAny_call ?_
    k_dflt cell_enter
    (rename Fr _ _ _ _ => FE)
    (refine' startP (l' := [(Str.ofString "jd", .int n t1)]) ?cs ?nd FE ?e ?S ?_)
    (case cs => (first | (dsimp only; done) | rfl))
    (case nd => kernel_rfl!)
    (case e => kernel_rfl!)
    (case S => with_reducible (apply Sts.cons; apply Sts.nil; (repeat (first | exact Nones.nil | apply Nones.cons)); (all_goals (repeat (first | exact St.here | apply St.there)))))
    (clear FE; intro hnd FE tk0; (try k_fold))
    k_with "cut" => ((with_reducible show wpAny _ _ (execs (Stmt.If _ _ _ ⟨228, _, _, _⟩ :: _) _) _ _ _); (rename Fr _ _ _ _ => zF); (rename News _ _ _ _ => zN); k_dflt (refine' cut1 "caitra" (nca (isleap (cy n))) (by assumption) zF zN ?zs1 ?_ ?_); (case zs1 => (intro t; with_reducible (repeat (first | exact St.here | apply St.there)))); (all_goals (intros; (try k_sweep); (try k_fold))))
    k_with "cut" => ((with_reducible show wpAny _ _ (execs (Stmt.If _ _ _ ⟨232, _, _, _⟩ :: _) _) _ _ _); (rename Fr _ _ _ _ => zF); (rename News _ _ _ _ => zN); k_dflt (refine' cut2 "year" (ny n) "yday" (nk n) (by assumption) zF zN ?zs1 ?zs2 ?_ ?_); (case zs1 => (intro t; with_reducible (repeat (first | exact St.here | apply St.there)))); (case zs2 => (intro t u; with_reducible (repeat (first | exact St.here | apply St.there)))); (all_goals (intros; (try k_sweep); (try k_fold))))
    k_with "cuteq" => with_reducible first | exact nca_a (by assumption) | exact nca_b (by assumption) | exact ny_a (by assumption) | exact ny_b (by assumption) | exact nk_a (by assumption) | exact nk_b (by assumption)
    k_steps
    all_goals (refine' end3 hret ?q7a ?q7b ?q7c ?q7f ?q7n ?q7m ?q7s ?q7l; (case q7f => k_asm); (case q7n => k_asm); (case q7m => k_mem); (case q7s => (first | exact fun _ h => h | exact fun _ h => .tail _ h | exact fun _ h => .tail _ (.tail _ h) | exact fun _ h => .tail _ (.tail _ (.tail _ h)) | exact fun _ h => .tail _ (.tail _ (.tail _ (.tail _ h))) | exact fun _ h => .tail _ (.tail _ (.tail _ (.tail _ (.tail _ h)))) | (intro p9 hp9; repeat (first | exact hp9 | refine List.Mem.tail _ ?_)))); (case q7l => (first | assumption | k_extra "lt" | exact allLt_of (by assumption) | exact And.right (by assumption) | (simp only [AllLt, and_true] at *; first | assumption | exact allLt_of (by assumption) | exact And.right (by assumption) | (simp_all; done)))); (case q7a => (with_reducible first | rfl | exact nmm_a (by assumption) | exact nmm_b (by assumption) (by assumption) | exact nmm_c (by assumption) (by assumption) | exact ndd_a (by assumption) | exact ndd_b (by assumption) (by assumption) | exact ndd_c (by assumption) (by assumption))); (case q7b => (with_reducible first | rfl | exact nmm_a (by assumption) | exact nmm_b (by assumption) (by assumption) | exact nmm_c (by assumption) (by assumption) | exact ndd_a (by assumption) | exact ndd_b (by assumption) (by assumption) | exact ndd_c (by assumption) (by assumption))); (case q7c => (with_reducible first | rfl | exact nmm_a (by assumption) | exact nmm_b (by assumption) (by assumption) | exact nmm_c (by assumption) (by assumption) | exact ndd_a (by assumption) | exact ndd_b (by assumption) (by assumption) | exact ndd_c (by assumption) (by assumption)))))) only [↓wrap_true]
local macro_rules | `(tactic| walk_at "call ref") => `(tactic| (k_here; (with_reducible show wpAny _ _ (call (Value.ref 241) _) _ _ _); k_dflt (refine' use1 (from_jd_indian_spec _ _ _) ?k1a241c35 ?k2a241c35 ?k3a241c35 ?k4a241c35 ?k5a241c35 ?kKa241c35 ?kda241c35 ?kua241c35 ?kpa241c35 ?_; (case k1a241c35 => k_asm); (case k2a241c35 => k_asm); (case k3a241c35 => k_asm); (case k4a241c35 => k_asm); (case k5a241c35 => k_asm); (case kKa241c35 => first | exact rfl | assumption); (case kda241c35 => first | omega | ktr_room); (case kua241c35 => first | omega | ktr_units); (case kpa241c35 => first | trivial | assumption | omega | (constructor <;> omega) | k_extra "pre")); intro D9 t91 t92 t93 c9 h9 tk9 F9 N9 l9; (try simp only [AllLt, and_true] at l9); (try dsimp only); (try k_sweep); (try k_fold)))
theorem to_greg_indian_spec (news) (y m d : Int) (t1 t2 t3 : Tok) : Call1 w loose mean mg mb 5 248 news [.int y t1, .int m t2, .int d t3] True (Ret3 (cy (nj y m d)) (cm (nj y m d)) (cd (nj y m d))) := by
  refine unwrap ?_
  simp (disch := k_dflt (
    k_with_none
    k_with "gl" => first | exact gl_from_jd_gregorian _ | exact gl_to_jd_indian_civil _
    dsimp only [Call1]
    intro dp un gd cn cs aF ccd cl outer A₀ base h₀ L mp s Q E B F X N T hk hdp hun hpre hret
    refine wpAny_call ?_
    k_dflt cell_enter
    (rename Fr _ _ _ _ => FE)
    (refine' startP (l' := [(Str.ofString "day", .int d t3), (Str.ofString "month", .int m t2), (Str.ofString "year", .int y t1)]) ?cs ?nd FE ?e ?S ?_)
    (case cs => (first | (dsimp only; done) | rfl))
    (case nd => kernel_rfl!)
    (case e => kernel_rfl!)
    (case S => with_reducible (apply Sts.cons; apply Sts.cons; apply Sts.cons; apply Sts.nil; (repeat (first | exact Nones.nil | apply Nones.cons)); (all_goals (repeat (first | exact St.here | apply St.there)))))
    (clear FE; intro hnd FE tk0; (try k_fold))
    k_steps
    all_goals (refine' end3 hret ?q7a ?q7b ?q7c ?q7f ?q7n ?q7m ?q7s ?q7l; (case q7f => k_asm); (case q7n => k_asm); (case q7m => k_mem); (case q7s => (first | exact fun _ h => h | exact fun _ h => .tail _ h | exact fun _ h => .tail _ (.tail _ h) | exact fun _ h => .tail _ (.tail _ (.tail _ h)) | exact fun _ h => .tail _ (.tail _ (.tail _ (.tail _ h))) | exact fun _ h => .tail _ (.tail _ (.tail _ (.tail _ (.tail _ h)))) | (intro p9 hp9; repeat (first | exact hp9 | refine List.Mem.tail _ ?_)))); (case q7l => (first | assumption | k_extra "lt" | exact allLt_of (by assumption) | exact And.right (by assumption) | (simp only [AllLt, and_true] at *; first | assumption | exact allLt_of (by assumption) | exact And.right (by assumption) | (simp_all; done)))); (case q7a => (rfl)); (case q7b => (rfl)); (case q7c => (rfl))))) only [↓wrap_true]
local macro_rules | `(tactic| walk_at "call ref") => `(tactic| (k_here; (with_reducible show wpAny _ _ (call (Value.ref 248) _) _ _ _); k_dflt (refine' use1 (to_greg_indian_spec _ _ _ _ _ _ _) ?k1a248c36 ?k2a248c36 ?k3a248c36 ?k4a248c36 ?k5a248c36 ?kKa248c36 ?kda248c36 ?kua248c36 ?kpa248c36 ?_; (case k1a248c36 => k_asm); (case k2a248c36 => k_asm); (case k3a248c36 => k_asm); (case k4a248c36 => k_asm); (case k5a248c36 => k_asm); (case kKa248c36 => first | exact rfl | assumption); (case kda248c36 => first | omega | ktr_room); (case kua248c36 => first | omega | ktr_units); (case kpa248c36 => first | trivial | assumption | omega | (constructor <;> omega) | k_extra "pre")); intro D9 t91 t92 t93 c9 h9 tk9 F9 N9 l9; (try simp only [AllLt, and_true] at l9); (try dsimp only); (try k_sweep); (try k_fold)))

-- A8
theorem tryP {prog : Program} {wd : World} {A : Around} {E : Value → Shared → Prop} {s : Shared} {env : Env} {body orelse : List Stmt} {hd0 : ExceptHandler} {hs : List ExceptHandler} {pos : Pos} {Q : Flow → Shared → Prop}
    (h : wpAny (model prog wd) A (execs body env) (fun f s₁ => match f with | .next => wpAny (model prog wd) A (execs orelse env) Q E s₁ | f => Q f s₁) (fun _ _ => False) s) :
    wpAny (model prog wd) A (exec (.Try body (hd0 :: hs) orelse [] pos) env) Q E s :=
  wpAny_Try_except (wpAny_mono h (fun _ _ x => x) (fun _ _ x => x.elim))
local macro_rules | `(tactic| walk_at "exec Try") => `(tactic| (k_here; k_extra "try"; k_dflt (refine tryP ?_); (try k_fold)))
-- armenian
theorem aleap_spec (news) (y : Int) (t1 : Tok) : Call1 w loose mean mg mb 1 284 news [.int y t1] (533 ≤ y) (RetB (y % 4 == 0)) := by
  refine unwrap ?_
  simp (disch := k_dflt (
    k_with_none
    dsimp only [Call1]
    intro dp un gd cn cs aF ccd cl outer A₀ base h₀ L mp s Q E B F X N T hk hdp hun hpre hret
    refine wpAny_call ?_
    k_dflt cell_enter
    (rename Fr _ _ _ _ => FE)
    (refine' startP (l' := [(Str.ofString "year", .int y t1)]) ?cs ?nd FE ?e ?S ?_)
    (case cs => (first | (dsimp only; done) | rfl))
    (case nd => kernel_rfl!)
    (case e => kernel_rfl!)
    (case S => with_reducible (apply Sts.cons; apply Sts.nil; (repeat (first | exact Nones.nil | apply Nones.cons)); (all_goals (repeat (first | exact St.here | apply St.there)))))
    (clear FE; intro hnd FE tk0; (try k_fold))
    k_steps
    all_goals (refine' endB hret ?q7a ?q7f ?q7n ?q7s; (case q7f => k_asm); (case q7n => k_asm); (case q7s => (first | exact fun _ h => h | exact fun _ h => .tail _ h | exact fun _ h => .tail _ (.tail _ h) | exact fun _ h => .tail _ (.tail _ (.tail _ h)) | exact fun _ h => .tail _ (.tail _ (.tail _ (.tail _ h))) | exact fun _ h => .tail _ (.tail _ (.tail _ (.tail _ (.tail _ h)))) | (intro p9 hp9; repeat (first | exact hp9 | refine List.Mem.tail _ ?_)))); (case q7a => (rfl))))) only [↓wrap_true]
local macro_rules | `(tactic| walk_at "call ref") => `(tactic| (k_here; (with_reducible show wpAny _ _ (call (Value.ref 284) _) _ _ _); k_dflt (refine' use1 (aleap_spec _ _ _) ?k1a284c37 ?k2a284c37 ?k3a284c37 ?k4a284c37 ?k5a284c37 ?kKa284c37 ?kda284c37 ?kua284c37 ?kpa284c37 ?_; (case k1a284c37 => k_asm); (case k2a284c37 => k_asm); (case k3a284c37 => k_asm); (case k4a284c37 => k_asm); (case k5a284c37 => k_asm); (case kKa284c37 => first | exact rfl | assumption); (case kda284c37 => first | omega | ktr_room); (case kua284c37 => first | omega | ktr_units); (case kpa284c37 => first | trivial | assumption | omega | (constructor <;> omega) | k_extra "pre")); intro h9 tk9 F9 N9; (try dsimp only); (try k_sweep); (try k_fold)))
abbrev aok (y m d : Int) : Prop := 1 ≤ m ∧ m ≤ 13 ∧ 1 ≤ d ∧ d ≤ 30 ∧ 1 ≤ y ∧ (m ≤ 12 ∨ d ≤ 5)
abbrev sok (y m d : Int) : Prop := 1 ≤ m ∧ m ≤ 13 ∧ 1 ≤ d ∧ d ≤ 30 ∧ 533 ≤ y ∧ (m ≤ 12 ∨ d ≤ 5 ∨ (d ≤ 6 ∧ y % 4 = 0))
theorem avalid_spec (news) (y m d : Int) (t1 t2 t3 : Tok) : Call1 w loose mean mg mb 2 277 news [.int y t1, .int m t2, .int d t3, .none] (aok y m d) (RetB true) := by
  refine unwrap ?_
  simp (disch := k_dflt (
    k_with_none
    k_with "gl" => first | exact gl_leap_armenian _
    k_with "gb" => first | exact gb_AssertionError _ | exact gb_ValueError _
    dsimp only [Call1]
    intro dp un gd cn cs aF ccd cl outer A₀ base h₀ L mp s Q E B F X N T hk hdp hun hpre hret
    refine wpAny_call ?_
    k_dflt (refine' code_def ?k1 ?k2 ?k3 ?k4 ?k5 ?kA ?kF ?kK ?k6 ?k7 ?k8 ?k9 ?kB ?_ ?c2 ?c3 ?c4 ?c5; (case kA => exact rfl); (case kF => exact rfl); (case kK => assumption); (case k1 => k_asm); (case k2 => k_asm); (case k3 => k_asm); (case k4 => k_asm); (case k5 => k_asm); (case k6 => k_is); (case k7 => k_is); (case k8 => ktr_room); (case k9 => exact binds_K (by k_in) rfl (by k_is) rfl rfl rfl); (case c5 => decide); (case kB => exact locs rfl); (case c2 => exact rfl); (case c3 => exact rfl); (case c4 => exact rfl); k_whole; intro g' L' h' FG' F' N' B' X' T'; (try dsimp only); (try k_lift B'); (try k_fold))
    (rename Fr _ _ _ _ => FE)
    (refine' startP (l' := [(Str.ofString "method", .none), (Str.ofString "day", .int d t3), (Str.ofString "month", .int m t2), (Str.ofString "year", .int y t1)]) ?cs ?nd FE ?e ?S ?_)
    (case cs => (first | (dsimp only; done) | rfl))
    (case nd => kernel_rfl!)
    (case e => kernel_rfl!)
    (case S => with_reducible (apply Sts.cons; apply Sts.cons; apply Sts.cons; apply Sts.cons; apply Sts.nil; (repeat (first | exact Nones.nil | apply Nones.cons)); (all_goals (repeat (first | exact St.here | apply St.there)))))
    (clear FE; intro hnd FE tk0; (try k_fold))
    obtain ⟨p1, p2, p3, p4, p5, p6⟩ := hpre
    k_with "try" => skip
    k_steps
    all_goals (refine' endB hret ?q7a ?q7f ?q7n ?q7s; (case q7f => k_asm); (case q7n => k_asm); (case q7s => (first | exact fun _ h => h | exact fun _ h => .tail _ h | exact fun _ h => .tail _ (.tail _ h) | exact fun _ h => .tail _ (.tail _ (.tail _ h)) | exact fun _ h => .tail _ (.tail _ (.tail _ (.tail _ h))) | exact fun _ h => .tail _ (.tail _ (.tail _ (.tail _ (.tail _ h)))) | (intro p9 hp9; repeat (first | exact hp9 | refine List.Mem.tail _ ?_)))); (case q7a => (rfl))))) only [↓wrap_true]
local macro_rules | `(tactic| walk_at "call ref") => `(tactic| (k_here; (with_reducible show wpAny _ _ (call (Value.ref 277) _) _ _ _); k_dflt (refine' use1 (avalid_spec _ _ _ _ _ _ _) ?k1a277c38 ?k2a277c38 ?k3a277c38 ?k4a277c38 ?k5a277c38 ?kKa277c38 ?kda277c38 ?kua277c38 ?kpa277c38 ?_; (case k1a277c38 => k_asm); (case k2a277c38 => k_asm); (case k3a277c38 => k_asm); (case k4a277c38 => k_asm); (case k5a277c38 => k_asm); (case kKa277c38 => first | exact rfl | assumption); (case kda277c38 => first | omega | ktr_room); (case kua277c38 => first | omega | ktr_units); (case kpa277c38 => first | trivial | assumption | omega | (constructor <;> omega) | k_extra "pre")); intro h9 tk9 F9 N9; (try dsimp only); (try k_sweep); (try k_fold)))
theorem svalid_spec (news) (y m d : Int) (t1 t2 t3 t4 : Tok) : Call1 w loose mean mg mb 2 277 news [.int y t1, .int m t2, .int d t3, .str (Str.ofString "sarkawag") t4] (sok y m d) (RetB true) := by
  refine unwrap ?_
  simp (disch := k_dflt (
    k_with_none
    k_with "gl" => first | exact gl_leap_armenian _
    k_with "gb" => first | exact gb_AssertionError _ | exact gb_ValueError _
    dsimp only [Call1]
    intro dp un gd cn cs aF ccd cl outer A₀ base h₀ L mp s Q E B F X N T hk hdp hun hpre hret
    refine wpAny_call ?_
    k_dflt (refine' code_def ?k1 ?k2 ?k3 ?k4 ?k5 ?kA ?kF ?kK ?k6 ?k7 ?k8 ?k9 ?kB ?_ ?c2 ?c3 ?c4 ?c5; (case kA => exact rfl); (case kF => exact rfl); (case kK => assumption); (case k1 => k_asm); (case k2 => k_asm); (case k3 => k_asm); (case k4 => k_asm); (case k5 => k_asm); (case k6 => k_is); (case k7 => k_is); (case k8 => ktr_room); (case k9 => exact binds_K (by k_in) rfl (by k_is) rfl rfl rfl); (case c5 => decide); (case kB => exact locs rfl); (case c2 => exact rfl); (case c3 => exact rfl); (case c4 => exact rfl); k_whole; intro g' L' h' FG' F' N' B' X' T'; (try dsimp only); (try k_lift B'); (try k_fold))
    (rename Fr _ _ _ _ => FE)
    (refine' startP (l' := [(Str.ofString "method", .str (Str.ofString "sarkawag") t4), (Str.ofString "day", .int d t3), (Str.ofString "month", .int m t2), (Str.ofString "year", .int y t1)]) ?cs ?nd FE ?e ?S ?_)
    (case cs => (first | (dsimp only; done) | rfl))
    (case nd => kernel_rfl!)
    (case e => kernel_rfl!)
    (case S => with_reducible (apply Sts.cons; apply Sts.cons; apply Sts.cons; apply Sts.cons; apply Sts.nil; (repeat (first | exact Nones.nil | apply Nones.cons)); (all_goals (repeat (first | exact St.here | apply St.there)))))
    (clear FE; intro hnd FE tk0; (try k_fold))
    obtain ⟨p1, p2, p3, p4, p5, p6⟩ := hpre
    k_with "try" => skip
    k_steps
    all_goals (refine' endB hret ?q7a ?q7f ?q7n ?q7s; (case q7f => k_asm); (case q7n => k_asm); (case q7s => (first | exact fun _ h => h | exact fun _ h => .tail _ h | exact fun _ h => .tail _ (.tail _ h) | exact fun _ h => .tail _ (.tail _ (.tail _ h)) | exact fun _ h => .tail _ (.tail _ (.tail _ (.tail _ h))) | exact fun _ h => .tail _ (.tail _ (.tail _ (.tail _ (.tail _ h)))) | (intro p9 hp9; repeat (first | exact hp9 | refine List.Mem.tail _ ?_)))); (case q7a => (rfl))))) only [↓wrap_true]
local macro_rules | `(tactic| walk_at "call ref") => `(tactic| (k_here; (with_reducible show wpAny _ _ (call (Value.ref 277) _) _ _ _); k_dflt (refine' use1 (svalid_spec _ _ _ _ _ _ _ _) ?k1a277c39 ?k2a277c39 ?k3a277c39 ?k4a277c39 ?k5a277c39 ?kKa277c39 ?kda277c39 ?kua277c39 ?kpa277c39 ?_; (case k1a277c39 => k_asm); (case k2a277c39 => k_asm); (case k3a277c39 => k_asm); (case k4a277c39 => k_asm); (case k5a277c39 => k_asm); (case kKa277c39 => first | exact rfl | assumption); (case kda277c39 => first | omega | ktr_room); (case kua277c39 => first | omega | ktr_units); (case kpa277c39 => first | trivial | assumption | omega | (constructor <;> omega) | k_extra "pre")); intro h9 tk9 F9 N9; (try dsimp only); (try k_sweep); (try k_fold)))
def aj (y m d : Int) : Int := 1922502 + 365 * y + ((m - 1) * 30 + d)
theorem to_jd_arm_spec (news) (y m d : Int) (t1 t2 t3 : Tok) : Call1 w loose mean mg mb 3 292 news [.int y t1, .int m t2, .int d t3, .none] (aok y m d) (RetI (aj y m d)) := by
  refine unwrap ?_
  simp (disch := k_dflt (
    k_with_none
    k_with "gl" => first | exact gl_valid_date _ | exact gl_trunc _ | exact gl_EPOCH_armenian _ | exact gl_EPOCH_SARKAWAG _
    dsimp only [Call1]
    intro dp un gd cn cs aF ccd cl outer A₀ base h₀ L mp s Q E B F X N T hk hdp hun hpre hret
    refine wpAny_call ?_
    k_dflt (refine' code_def ?k1 ?k2 ?k3 ?k4 ?k5 ?kA ?kF ?kK ?k6 ?k7 ?k8 ?k9 ?kB ?_ ?c2 ?c3 ?c4 ?c5; (case kA => exact rfl); (case kF => exact rfl); (case kK => assumption); (case k1 => k_asm); (case k2 => k_asm); (case k3 => k_asm); (case k4 => k_asm); (case k5 => k_asm); (case k6 => k_is); (case k7 => k_is); (case k8 => ktr_room); (case k9 => exact binds_K (by k_in) rfl (by k_is) rfl rfl rfl); (case c5 => decide); (case kB => exact locs rfl); (case c2 => exact rfl); (case c3 => exact rfl); (case c4 => exact rfl); k_whole; intro g' L' h' FG' F' N' B' X' T'; (try dsimp only); (try k_lift B'); (try k_fold))
    (rename Fr _ _ _ _ => FE)
    (refine' startP (l' := [(Str.ofString "method", .none), (Str.ofString "day", .int d t3), (Str.ofString "month", .int m t2), (Str.ofString "year", .int y t1)]) ?cs ?nd FE ?e ?S ?_)
    (case cs => (first | (dsimp only; done) | rfl))
    (case nd => kernel_rfl!)
    (case e => kernel_rfl!)
    (case S => with_reducible (apply Sts.cons; apply Sts.cons; apply Sts.cons; apply Sts.cons; apply Sts.nil; (repeat (first | exact Nones.nil | apply Nones.cons)); (all_goals (repeat (first | exact St.here | apply St.there)))))
    (clear FE; intro hnd FE tk0; (try k_fold))
    k_steps
    all_goals (refine' endI hret ?q7a ?q7f ?q7n ?q7s; (case q7f => k_asm); (case q7n => k_asm); (case q7s => (first | exact fun _ h => h | exact fun _ h => .tail _ h | exact fun _ h => .tail _ (.tail _ h) | exact fun _ h => .tail _ (.tail _ (.tail _ h)) | exact fun _ h => .tail _ (.tail _ (.tail _ (.tail _ h))) | exact fun _ h => .tail _ (.tail _ (.tail _ (.tail _ (.tail _ h)))) | (intro p9 hp9; repeat (first | exact hp9 | refine List.Mem.tail _ ?_)))); (case q7a => (rfl))))) only [↓wrap_true]
local macro_rules | `(tactic| walk_at "call ref") => `(tactic| (k_here; (with_reducible show wpAny _ _ (call (Value.ref 292) _) _ _ _); k_dflt (refine' use1 (to_jd_arm_spec _ _ _ _ _ _ _) ?k1a292c40 ?k2a292c40 ?k3a292c40 ?k4a292c40 ?k5a292c40 ?kKa292c40 ?kda292c40 ?kua292c40 ?kpa292c40 ?_; (case k1a292c40 => k_asm); (case k2a292c40 => k_asm); (case k3a292c40 => k_asm); (case k4a292c40 => k_asm); (case k5a292c40 => k_asm); (case kKa292c40 => first | exact rfl | assumption); (case kda292c40 => first | omega | ktr_room); (case kua292c40 => first | omega | ktr_units); (case kpa292c40 => first | trivial | assumption | omega | (constructor <;> omega) | k_extra "pre")); intro t9 h9 tk9 F9 N9; (try dsimp only); (try k_sweep); (try k_fold)))
def sj (y m d : Int) : Int := 2117211 + 365 * (y - 533) + (y - 533) / 4 + ((m - 1) * 30 + d)
theorem to_jd_sark_spec (news) (y m d : Int) (t1 t2 t3 t4 : Tok) : Call1 w loose mean mg mb 3 292 news [.int y t1, .int m t2, .int d t3, .str (Str.ofString "sarkawag") t4] (sok y m d) (RetI (sj y m d)) := by
  refine unwrap ?_
  simp (disch := k_dflt (
    k_with_none
    k_with "gl" => first | exact gl_valid_date _ | exact gl_trunc _ | exact gl_EPOCH_armenian _ | exact gl_EPOCH_SARKAWAG _
    dsimp only [Call1]
    intro dp un gd cn cs aF ccd cl outer A₀ base h₀ L mp s Q E B F X N T hk hdp hun hpre hret
    refine wpAny_call ?_
    k_dflt (refine' code_def ?k1 ?k2 ?k3 ?k4 ?k5 ?kA ?kF ?kK ?k6 ?k7 ?k8 ?k9 ?kB ?_ ?c2 ?c3 ?c4 ?c5; (case kA => exact rfl); (case kF => exact rfl); (case kK => assumption); (case k1 => k_asm); (case k2 => k_asm); (case k3 => k_asm); (case k4 => k_asm); (case k5 => k_asm); (case k6 => k_is); (case k7 => k_is); (case k8 => ktr_room); (case k9 => exact binds_K (by k_in) rfl (by k_is) rfl rfl rfl); (case c5 => decide); (case kB => exact locs rfl); (case c2 => exact rfl); (case c3 => exact rfl); (case c4 => exact rfl); k_whole; intro g' L' h' FG' F' N' B' X' T'; (try dsimp only); (try k_lift B'); (try k_fold))
    (rename Fr _ _ _ _ => FE)
    (refine' startP (l' := [(Str.ofString "method", .str (Str.ofString "sarkawag") t4), (Str.ofString "day", .int d t3), (Str.ofString "month", .int m t2), (Str.ofString "year", .int y t1)]) ?cs ?nd FE ?e ?S ?_)
    (case cs => (first | (dsimp only; done) | rfl))
    (case nd => kernel_rfl!)
    (case e => kernel_rfl!)
    (case S => with_reducible (apply Sts.cons; apply Sts.cons; apply Sts.cons; apply Sts.cons; apply Sts.nil; (repeat (first | exact Nones.nil | apply Nones.cons)); (all_goals (repeat (first | exact St.here | apply St.there)))))
    (clear FE; intro hnd FE tk0; (try k_fold))
    k_with "pre" => (obtain ⟨p1, p2, p3, p4, p5, p6⟩ := hpre; exact ⟨by omega, by decide, by decide⟩)
    k_steps
    all_goals (refine' endI hret ?q7a ?q7f ?q7n ?q7s; (case q7f => k_asm); (case q7n => k_asm); (case q7s => (first | exact fun _ h => h | exact fun _ h => .tail _ h | exact fun _ h => .tail _ (.tail _ h) | exact fun _ h => .tail _ (.tail _ (.tail _ h)) | exact fun _ h => .tail _ (.tail _ (.tail _ (.tail _ h))) | exact fun _ h => .tail _ (.tail _ (.tail _ (.tail _ (.tail _ h)))) | (intro p9 hp9; repeat (first | exact hp9 | refine List.Mem.tail _ ?_)))); (case q7a => (rfl))))) only [↓wrap_true]
local macro_rules | `(tactic| walk_at "call ref") => `(tactic| (k_here; (with_reducible show wpAny _ _ (call (Value.ref 292) _) _ _ _); k_dflt (refine' use1 (to_jd_sark_spec _ _ _ _ _ _ _ _) ?k1a292c41 ?k2a292c41 ?k3a292c41 ?k4a292c41 ?k5a292c41 ?kKa292c41 ?kda292c41 ?kua292c41 ?kpa292c41 ?_; (case k1a292c41 => k_asm); (case k2a292c41 => k_asm); (case k3a292c41 => k_asm); (case k4a292c41 => k_asm); (case k5a292c41 => k_asm); (case kKa292c41 => first | exact rfl | assumption); (case kda292c41 => first | omega | ktr_room); (case kua292c41 => first | omega | ktr_units); (case kpa292c41 => first | trivial | assumption | omega | (constructor <;> omega) | k_extra "pre")); intro t9 h9 tk9 F9 N9; (try dsimp only); (try k_sweep); (try k_fold)))
theorem to_greg_arm_spec (news) (y m d : Int) (t1 t2 t3 : Tok) : Call1 w loose mean mg mb 5 308 news [.int y t1, .int m t2, .int d t3] (aok y m d) (Ret3 (cy (aj y m d)) (cm (aj y m d)) (cd (aj y m d))) := by
  refine unwrap ?_
  simp (disch := k_dflt (
    k_with_none
    k_with "gl" => first | exact gl_from_jd_gregorian _ | exact gl_to_jd_armenian _
    dsimp only [Call1]
    intro dp un gd cn cs aF ccd cl outer A₀ base h₀ L mp s Q E B F X N T hk hdp hun hpre hret
    refine wpAny_call ?_
    k_dflt (refine' code_def ?k1 ?k2 ?k3 ?k4 ?k5 ?kA ?kF ?kK ?k6 ?k7 ?k8 ?k9 ?kB ?_ ?c2 ?c3 ?c4 ?c5; (case kA => exact rfl); (case kF => exact rfl); (case kK => assumption); (case k1 => k_asm); (case k2 => k_asm); (case k3 => k_asm); (case k4 => k_asm); (case k5 => k_asm); (case k6 => k_is); (case k7 => k_is); (case k8 => ktr_room); (case k9 => exact binds_K (by k_in) rfl (by k_is) rfl rfl rfl); (case c5 => decide); (case kB => exact locs rfl); (case c2 => exact rfl); (case c3 => exact rfl); (case c4 => exact rfl); k_whole; intro g' L' h' FG' F' N' B' X' T'; (try dsimp only); (try k_lift B'); (try k_fold))
    (rename Fr _ _ _ _ => FE)
    (refine' startP (l' := [(Str.ofString "method", .none), (Str.ofString "day", .int d t3), (Str.ofString "month", .int m t2), (Str.ofString "year", .int y t1)]) ?cs ?nd FE ?e ?S ?_)
    (case cs => (first | (dsimp only; done) | rfl))
    (case nd => kernel_rfl!)
    (case e => kernel_rfl!)
    (case S => with_reducible (apply Sts.cons; apply Sts.cons; apply Sts.cons; apply Sts.cons; apply Sts.nil; (repeat (first | exact Nones.nil | apply Nones.cons)); (all_goals (repeat (first | exact St.here | apply St.there)))))
    (clear FE; intro hnd FE tk0; (try k_fold))
    k_steps
    all_goals (refine' end3 hret ?q7a ?q7b ?q7c ?q7f ?q7n ?q7m ?q7s ?q7l; (case q7f => k_asm); (case q7n => k_asm); (case q7m => k_mem); (case q7s => (first | exact fun _ h => h | exact fun _ h => .tail _ h | exact fun _ h => .tail _ (.tail _ h) | exact fun _ h => .tail _ (.tail _ (.tail _ h)) | exact fun _ h => .tail _ (.tail _ (.tail _ (.tail _ h))) | exact fun _ h => .tail _ (.tail _ (.tail _ (.tail _ (.tail _ h)))) | (intro p9 hp9; repeat (first | exact hp9 | refine List.Mem.tail _ ?_)))); (case q7l => (first | assumption | k_extra "lt" | exact allLt_of (by assumption) | exact And.right (by assumption) | (simp only [AllLt, and_true] at *; first | assumption | exact allLt_of (by assumption) | exact And.right (by assumption) | (simp_all; done)))); (case q7a => (rfl)); (case q7b => (rfl)); (case q7c => (rfl))))) only [↓wrap_true]
local macro_rules | `(tactic| walk_at "call ref") => `(tactic| (k_here; (with_reducible show wpAny _ _ (call (Value.ref 308) _) _ _ _); k_dflt (refine' use1 (to_greg_arm_spec _ _ _ _ _ _ _) ?k1a308c42 ?k2a308c42 ?k3a308c42 ?k4a308c42 ?k5a308c42 ?kKa308c42 ?kda308c42 ?kua308c42 ?kpa308c42 ?_; (case k1a308c42 => k_asm); (case k2a308c42 => k_asm); (case k3a308c42 => k_asm); (case k4a308c42 => k_asm); (case k5a308c42 => k_asm); (case kKa308c42 => first | exact rfl | assumption); (case kda308c42 => first | omega | ktr_room); (case kua308c42 => first | omega | ktr_units); (case kpa308c42 => first | trivial | assumption | omega | (constructor <;> omega) | k_extra "pre")); intro D9 t91 t92 t93 c9 h9 tk9 F9 N9 l9; (try simp only [AllLt, and_true] at l9); (try dsimp only); (try k_sweep); (try k_fold)))
theorem to_greg_sark_spec (news) (y m d : Int) (t1 t2 t3 t4 : Tok) : Call1 w loose mean mg mb 5 308 news [.int y t1, .int m t2, .int d t3, .str (Str.ofString "sarkawag") t4] (sok y m d) (Ret3 (cy (sj y m d)) (cm (sj y m d)) (cd (sj y m d))) := by
  refine unwrap ?_
  simp (disch := k_dflt (
    k_with_none
    k_with "gl" => first | exact gl_from_jd_gregorian _ | exact gl_to_jd_armenian _
    dsimp only [Call1]
    intro dp un gd cn cs aF ccd cl outer A₀ base h₀ L mp s Q E B F X N T hk hdp hun hpre hret
    refine wpAny_call ?_
    k_dflt (refine' code_def ?k1 ?k2 ?k3 ?k4 ?k5 ?kA ?kF ?kK ?k6 ?k7 ?k8 ?k9 ?kB ?_ ?c2 ?c3 ?c4 ?c5; (case kA => exact rfl); (case kF => exact rfl); (case kK => assumption); (case k1 => k_asm); (case k2 => k_asm); (case k3 => k_asm); (case k4 => k_asm); (case k5 => k_asm); (case k6 => k_is); (case k7 => k_is); (case k8 => ktr_room); (case k9 => exact binds_K (by k_in) rfl (by k_is) rfl rfl rfl); (case c5 => decide); (case kB => exact locs rfl); (case c2 => exact rfl); (case c3 => exact rfl); (case c4 => exact rfl); k_whole; intro g' L' h' FG' F' N' B' X' T'; (try dsimp only); (try k_lift B'); (try k_fold))
    (rename Fr _ _ _ _ => FE)
    (refine' startP (l' := [(Str.ofString "method", .str (Str.ofString "sarkawag") t4), (Str.ofString "day", .int d t3), (Str.ofString "month", .int m t2), (Str.ofString "year", .int y t1)]) ?cs ?nd FE ?e ?S ?_)
    (case cs => (first | (dsimp only; done) | rfl))
    (case nd => kernel_rfl!)
    (case e => kernel_rfl!)
    (case S => with_reducible (apply Sts.cons; apply Sts.cons; apply Sts.cons; apply Sts.cons; apply Sts.nil; (repeat (first | exact Nones.nil | apply Nones.cons)); (all_goals (repeat (first | exact St.here | apply St.there)))))
    (clear FE; intro hnd FE tk0; (try k_fold))
    k_steps
    all_goals (refine' end3 hret ?q7a ?q7b ?q7c ?q7f ?q7n ?q7m ?q7s ?q7l; (case q7f => k_asm); (case q7n => k_asm); (case q7m => k_mem); (case q7s => (first | exact fun _ h => h | exact fun _ h => .tail _ h | exact fun _ h => .tail _ (.tail _ h) | exact fun _ h => .tail _ (.tail _ (.tail _ h)) | exact fun _ h => .tail _ (.tail _ (.tail _ (.tail _ h))) | exact fun _ h => .tail _ (.tail _ (.tail _ (.tail _ (.tail _ h)))) | (intro p9 hp9; repeat (first | exact hp9 | refine List.Mem.tail _ ?_)))); (case q7l => (first | assumption | k_extra "lt" | exact allLt_of (by assumption) | exact And.right (by assumption) | (simp only [AllLt, and_true] at *; first | assumption | exact allLt_of (by assumption) | exact And.right (by assumption) | (simp_all; done)))); (case q7a => (rfl)); (case q7b => (rfl)); (case q7c => (rfl))))) only [↓wrap_true]
local macro_rules | `(tactic| walk_at "call ref") => `(tactic| (k_here; (with_reducible show wpAny _ _ (call (Value.ref 308) _) _ _ _); k_dflt (refine' use1 (to_greg_sark_spec _ _ _ _ _ _ _ _) ?k1a308c43 ?k2a308c43 ?k3a308c43 ?k4a308c43 ?k5a308c43 ?kKa308c43 ?kda308c43 ?kua308c43 ?kpa308c43 ?_; (case k1a308c43 => k_asm); (case k2a308c43 => k_asm); (case k3a308c43 => k_asm); (case k4a308c43 => k_asm); (case k5a308c43 => k_asm); (case kKa308c43 => first | exact rfl | assumption); (case kda308c43 => first | omega | ktr_room); (case kua308c43 => first | omega | ktr_units); (case kpa308c43 => first | trivial | assumption | omega | (constructor <;> omega) | k_extra "pre")); intro D9 t91 t92 t93 c9 h9 tk9 F9 N9 l9; (try simp only [AllLt, and_true] at l9); (try dsimp only); (try k_sweep); (try k_fold)))
def ay (n : Int) : Int := (n - 1922502 - 1) / 365
abbrev am0 (n : Int) : Int := (n - 1922502 - 1) % 365 / 30
def am (n : Int) : Int := am0 n + 1
def ad (n : Int) : Int := n - 1922502 - 365 * ((n - 1922502 - 1) / 365) - 30 * am0 n
theorem from_jd_arm_spec (news) (n : Int) (t1 : Tok) : Call1 w loose mean mg mb 2 300 news [.int n t1] (1922503 ≤ n) (Ret3 (ay n) (am n) (ad n)) := by
  refine unwrap ?_
  simp (disch := k_dflt (
    k_with_none
    k_with "gl" => first | exact gl_EPOCH_armenian _ | exact gl_trunc _ | exact gl_EPOCH_SARKAWAG _
    k_with "gb" => first | exact gb_ValueError _
    dsimp only [Call1]
    intro dp un gd cn cs aF ccd cl outer A₀ base h₀ L mp s Q E B F X N T hk hdp hun hpre hret
    refine wpAny_call ?_
    k_dflt (refine' code_def ?k1 ?k2 ?k3 ?k4 ?k5 ?kA ?kF ?kK ?k6 ?k7 ?k8 ?k9 ?kB ?_ ?c2 ?c3 ?c4 ?c5; (case kA => exact rfl); (case kF => exact rfl); (case kK => assumption); (case k1 => k_asm); (case k2 => k_asm); (case k3 => k_asm); (case k4 => k_asm); (case k5 => k_asm); (case k6 => k_is); (case k7 => k_is); (case k8 => ktr_room); (case k9 => exact binds_K (by k_in) rfl (by k_is) rfl rfl rfl); (case c5 => decide); (case kB => exact locs rfl); (case c2 => exact rfl); (case c3 => exact rfl); (case c4 => exact rfl); k_whole; intro g' L' h' FG' F' N' B' X' T'; (try dsimp only); (try k_lift B'); (try k_fold))
    (rename Fr _ _ _ _ => FE)
    (refine' startP (l' := [(Str.ofString "method", .none), (Str.ofString "jd", .int n t1)]) ?cs ?nd FE ?e ?S ?_)
    (case cs => (first | (dsimp only; done) | rfl))
    (case nd => kernel_rfl!)
    (case e => kernel_rfl!)
    (case S => with_reducible (apply Sts.cons; apply Sts.cons; apply Sts.nil; (repeat (first | exact Nones.nil | apply Nones.cons)); (all_goals (repeat (first | exact St.here | apply St.there)))))
    (clear FE; intro hnd FE tk0; (try k_fold))
    k_with "raise" => omega
    k_with "pre" => (refine ⟨?_, by decide, by decide⟩; omega)
    k_steps
    all_goals (refine' end3 hret ?q7a ?q7b ?q7c ?q7f ?q7n ?q7m ?q7s ?q7l; (case q7f => k_asm); (case q7n => k_asm); (case q7m => k_mem); (case q7s => (first | exact fun _ h => h | exact fun _ h => .tail _ h | exact fun _ h => .tail _ (.tail _ h) | exact fun _ h => .tail _ (.tail _ (.tail _ h)) | exact fun _ h => .tail _ (.tail _ (.tail _ (.tail _ h))) | exact fun _ h => .tail _ (.tail _ (.tail _ (.tail _ (.tail _ h)))) | (intro p9 hp9; repeat (first | exact hp9 | refine List.Mem.tail _ ?_)))); (case q7l => (first | assumption | k_extra "lt" | exact allLt_of (by assumption) | exact And.right (by assumption) | (simp only [AllLt, and_true] at *; first | assumption | exact allLt_of (by assumption) | exact And.right (by assumption) | (simp_all; done)))); (case q7a => (rfl)); (case q7b => (rfl)); (case q7c => (rfl))))) only [↓wrap_true]
local macro_rules | `(tactic| walk_at "call ref") => `(tactic| (k_here; (with_reducible show wpAny _ _ (call (Value.ref 300) _) _ _ _); k_dflt (refine' use1 (from_jd_arm_spec _ _ _) ?k1a300c44 ?k2a300c44 ?k3a300c44 ?k4a300c44 ?k5a300c44 ?kKa300c44 ?kda300c44 ?kua300c44 ?kpa300c44 ?_; (case k1a300c44 => k_asm); (case k2a300c44 => k_asm); (case k3a300c44 => k_asm); (case k4a300c44 => k_asm); (case k5a300c44 => k_asm); (case kKa300c44 => first | exact rfl | assumption); (case kda300c44 => first | omega | ktr_room); (case kua300c44 => first | omega | ktr_units); (case kpa300c44 => first | trivial | assumption | omega | (constructor <;> omega) | k_extra "pre")); intro D9 t91 t92 t93 c9 h9 tk9 F9 N9 l9; (try simp only [AllLt, and_true] at l9); (try dsimp only); (try k_sweep); (try k_fold)))
abbrev sY (n : Int) : Int := 4 * (n - 2117211) / 1461
abbrev sK (n : Int) : Int := n - 2117211 - (365 * sY n + sY n / 4)
def sd (n : Int) : Int := if sK n = 0 then (if sY n % 4 = 0 then 366 else 365) else sK n
def sy (n : Int) : Int := if sK n = 0 then sY n - 1 else sY n
theorem sd_a {n : Int} (h : sK n = 0) (h2 : sY n % 4 = 0) : 366 = sd n := by rw [sd, if_pos h, if_pos h2]
theorem sd_b {n : Int} (h : sK n = 0) (h2 : sY n % 4 ≠ 0) : 365 = sd n := by rw [sd, if_pos h, if_neg h2]
theorem sd_c {n : Int} (h : sK n ≠ 0) : sK n = sd n := by rw [sd, if_neg h]
theorem sy_a {n : Int} (h : sK n = 0) : sY n - 1 = sy n := by rw [sy, if_pos h]
theorem sy_b {n : Int} (h : sK n ≠ 0) : sY n = sy n := by rw [sy, if_neg h]
theorem sd_pos {n : Int} (h : 2117211 ≤ n) : 0 ≤ sd n - 1 := by
  unfold sd
  split
  · split <;> omega
  · rename_i h2
    have : 0 ≤ sK n := by unfold sK sY; omega
    omega
def sm (n : Int) : Int := (sd n - 1) / 30 + 1
def sdd (n : Int) : Int := sd n - 30 * ((sd n - 1) / 30)
theorem from_jd_sark_spec (news) (n : Int) (t1 t2 : Tok) : Call1 w loose mean mg mb 2 300 news [.int n t1, .str (Str.ofString "sarkawag") t2] (2117211 ≤ n) (Ret3 (sy n + 533) (sm n) (sdd n)) := by
  refine unwrap ?_
  simp (disch := k_dflt (
    k_with_none
    k_with "gl" => first | exact gl_EPOCH_armenian _ | exact gl_trunc _ | exact gl_EPOCH_SARKAWAG _
    k_with "gb" => first | exact gb_ValueError _
    dsimp only [Call1]
    intro dp un gd cn cs aF ccd cl outer A₀ base h₀ L mp s Q E B F X N T hk hdp hun hpre hret
    refine wpAny_call ?_
    k_dflt (refine' code_def ?k1 ?k2 ?k3 ?k4 ?k5 ?kA ?kF ?kK ?k6 ?k7 ?k8 ?k9 ?kB ?_ ?c2 ?c3 ?c4 ?c5; (case kA => exact rfl); (case kF => exact rfl); (case kK => assumption); (case k1 => k_asm); (case k2 => k_asm); (case k3 => k_asm); (case k4 => k_asm); (case k5 => k_asm); (case k6 => k_is); (case k7 => k_is); (case k8 => ktr_room); (case k9 => exact binds_K (by k_in) rfl (by k_is) rfl rfl rfl); (case c5 => decide); (case kB => exact locs rfl); (case c2 => exact rfl); (case c3 => exact rfl); (case c4 => exact rfl); k_whole; intro g' L' h' FG' F' N' B' X' T'; (try dsimp only); (try k_lift B'); (try k_fold))
    (rename Fr _ _ _ _ => FE)
    (refine' startP (l' := [(Str.ofString "method", .str (Str.ofString "sarkawag") t2), (Str.ofString "jd", .int n t1)]) ?cs ?nd FE ?e ?S ?_)
    (case cs => (first | (dsimp only; done) | rfl))
    (case nd => kernel_rfl!)
    (case e => kernel_rfl!)
    (case S => with_reducible (apply Sts.cons; apply Sts.cons; apply Sts.nil; (repeat (first | exact Nones.nil | apply Nones.cons)); (all_goals (repeat (first | exact St.here | apply St.there)))))
    (clear FE; intro hnd FE tk0; (try k_fold))
    k_with "cut" => ((with_reducible show wpAny _ _ (execs (Stmt.If _ _ _ ⟨324, _, _, _⟩ :: _) _) _ _ _); (rename Fr _ _ _ _ => zF); (rename News _ _ _ _ => zN); k_dflt (refine' cut2 "yeardays" (sd n) "years" (sy n) (by assumption) zF zN ?zs1 ?zs2 ?_ ?_); (case zs1 => (intro t; with_reducible (repeat (first | exact St.here | apply St.there)))); (case zs2 => (intro t u; with_reducible (repeat (first | exact St.here | apply St.there)))); (all_goals (intros; (try k_sweep); (try k_fold))))
    k_with "cuteq" => with_reducible first | exact sd_a (by assumption) (by assumption) | exact sd_b (by assumption) (by assumption) | exact sd_c (by assumption) | exact sy_a (by assumption) | exact sy_b (by assumption)
    k_with "raise" => omega
    k_with "pre" => first | (refine ⟨?_, by decide, by decide⟩; omega) | exact ⟨sd_pos hpre, by decide, by decide⟩
    k_steps
    all_goals (refine' end3 hret ?q7a ?q7b ?q7c ?q7f ?q7n ?q7m ?q7s ?q7l; (case q7f => k_asm); (case q7n => k_asm); (case q7m => k_mem); (case q7s => (first | exact fun _ h => h | exact fun _ h => .tail _ h | exact fun _ h => .tail _ (.tail _ h) | exact fun _ h => .tail _ (.tail _ (.tail _ h)) | exact fun _ h => .tail _ (.tail _ (.tail _ (.tail _ h))) | exact fun _ h => .tail _ (.tail _ (.tail _ (.tail _ (.tail _ h)))) | (intro p9 hp9; repeat (first | exact hp9 | refine List.Mem.tail _ ?_)))); (case q7l => (first | assumption | k_extra "lt" | exact allLt_of (by assumption) | exact And.right (by assumption) | (simp only [AllLt, and_true] at *; first | assumption | exact allLt_of (by assumption) | exact And.right (by assumption) | (simp_all; done)))); (case q7a => (rfl)); (case q7b => (rfl)); (case q7c => (rfl))))) only [↓wrap_true]
local macro_rules | `(tactic| walk_at "call ref") => `(tactic| (k_here; (with_reducible show wpAny _ _ (call (Value.ref 300) _) _ _ _); k_dflt (refine' use1 (from_jd_sark_spec _ _ _ _) ?k1a300c45 ?k2a300c45 ?k3a300c45 ?k4a300c45 ?k5a300c45 ?kKa300c45 ?kda300c45 ?kua300c45 ?kpa300c45 ?_; (case k1a300c45 => k_asm); (case k2a300c45 => k_asm); (case k3a300c45 => k_asm); (case k4a300c45 => k_asm); (case k5a300c45 => k_asm); (case kKa300c45 => first | exact rfl | assumption); (case kda300c45 => first | omega | ktr_room); (case kua300c45 => first | omega | ktr_units); (case kpa300c45 => first | trivial | assumption | omega | (constructor <;> omega) | k_extra "pre")); intro D9 t91 t92 t93 c9 h9 tk9 F9 N9 l9; (try simp only [AllLt, and_true] at l9); (try dsimp only); (try k_sweep); (try k_fold)))

-- A11
-- positivist
def pj (y m d : Int) : Int := 1721426 - 1 + 365 * (y + 1789 - 1 - 1) + (y + 1789 - 1 - 1) / 4 + -((y + 1789 - 1 - 1) / 100) + (y + 1789 - 1 - 1) / 400 + (m - 1) * 28 + d
abbrev pok (y m d : Int) : Prop := 1 ≤ y ∧ 1 ≤ m ∧ m ≤ 14 ∧ 1 ≤ d ∧ d ≤ 28 ∧ (m ≤ 13 ∨ (d ≤ 2 ∧ isleap (y + 1789 - 1) = true) ∨ (d = 1 ∧ isleap (y + 1789 - 1) = false))
theorem plegal_spec (news) (y m d : Int) (t1 t2 t3 : Tok) : Call1 w loose mean mg mb 2 431 news [.int y t1, .int m t2, .int d t3] (pok y m d) (RetB true) := by
  refine unwrap ?_
  simp (disch := k_dflt (
    k_with_none
    k_with "gl" => first | exact gl_isleap _ | exact gl_YEAR_EPOCH _
    k_with "gb" => first | exact gb_AssertionError _ | exact gb_ValueError _
    dsimp only [Call1]
    intro dp un gd cn cs aF ccd cl outer A₀ base h₀ L mp s Q E B F X N T hk hdp hun hpre hret
    refine wpAny_call ?_
    k_dflt cell_enter
    (rename Fr _ _ _ _ => FE)
    (refine' startP (l' := [(Str.ofString "day", .int d t3), (Str.ofString "month", .int m t2), (Str.ofString "year", .int y t1)]) ?cs ?nd FE ?e ?S ?_)
    (case cs => (first | (dsimp only; done) | rfl))
    (case nd => kernel_rfl!)
    (case e => kernel_rfl!)
    (case S => with_reducible (apply Sts.cons; apply Sts.cons; apply Sts.cons; apply Sts.nil; (repeat (first | exact Nones.nil | apply Nones.cons)); (all_goals (repeat (first | exact St.here | apply St.there)))))
    (clear FE; intro hnd FE tk0; (try k_fold))
    obtain ⟨p1, p2, p3, p4, p5, p6⟩ := hpre
    k_with "try" => skip
    k_steps
    all_goals (refine' endB hret ?q7a ?q7f ?q7n ?q7s; (case q7f => k_asm); (case q7n => k_asm); (case q7s => (first | exact fun _ h => h | exact fun _ h => .tail _ h | exact fun _ h => .tail _ (.tail _ h) | exact fun _ h => .tail _ (.tail _ (.tail _ h)) | exact fun _ h => .tail _ (.tail _ (.tail _ (.tail _ h))) | exact fun _ h => .tail _ (.tail _ (.tail _ (.tail _ (.tail _ h)))) | (intro p9 hp9; repeat (first | exact hp9 | refine List.Mem.tail _ ?_)))); (case q7a => (rfl))))) only [↓wrap_true]
local macro_rules | `(tactic| walk_at "call ref") => `(tactic| (k_here; (with_reducible show wpAny _ _ (call (Value.ref 431) _) _ _ _); k_dflt (refine' use1 (plegal_spec _ _ _ _ _ _ _) ?k1a431c46 ?k2a431c46 ?k3a431c46 ?k4a431c46 ?k5a431c46 ?kKa431c46 ?kda431c46 ?kua431c46 ?kpa431c46 ?_; (case k1a431c46 => k_asm); (case k2a431c46 => k_asm); (case k3a431c46 => k_asm); (case k4a431c46 => k_asm); (case k5a431c46 => k_asm); (case kKa431c46 => first | exact rfl | assumption); (case kda431c46 => first | omega | ktr_room); (case kua431c46 => first | omega | ktr_units); (case kpa431c46 => first | trivial | assumption | omega | (constructor <;> omega) | k_extra "pre")); intro h9 tk9 F9 N9; (try dsimp only); (try k_sweep); (try k_fold)))
theorem to_jd_pos_spec (news) (y m d : Int) (t1 t2 t3 : Tok) : Call1 w loose mean mg mb 3 438 news [.int y t1, .int m t2, .int d t3] (pok y m d) (RetI (pj y m d)) := by
  refine unwrap ?_
  simp (disch := k_dflt (
    k_with_none
    k_with "gl" => first | exact gl_legal_date_positivist _ | exact gl_YEAR_EPOCH _ | exact gl_EPOCH_gregorian _
    dsimp only [Call1]
    intro dp un gd cn cs aF ccd cl outer A₀ base h₀ L mp s Q E B F X N T hk hdp hun hpre hret
    refine wpAny_call ?_
    k_dflt cell_enter
    (rename Fr _ _ _ _ => FE)
    (refine' startP (l' := [(Str.ofString "day", .int d t3), (Str.ofString "month", .int m t2), (Str.ofString "year", .int y t1)]) ?cs ?nd FE ?e ?S ?_)
    (case cs => (first | (dsimp only; done) | rfl))
    (case nd => kernel_rfl!)
    (case e => kernel_rfl!)
    (case S => with_reducible (apply Sts.cons; apply Sts.cons; apply Sts.cons; apply Sts.nil; (repeat (first | exact Nones.nil | apply Nones.cons)); (all_goals (repeat (first | exact St.here | apply St.there)))))
    (clear FE; intro hnd FE tk0; (try k_fold))
    k_steps
    all_goals (refine' endI hret ?q7a ?q7f ?q7n ?q7s; (case q7f => k_asm); (case q7n => k_asm); (case q7s => (first | exact fun _ h => h | exact fun _ h => .tail _ h | exact fun _ h => .tail _ (.tail _ h) | exact fun _ h => .tail _ (.tail _ (.tail _ h)) | exact fun _ h => .tail _ (.tail _ (.tail _ (.tail _ h))) | exact fun _ h => .tail _ (.tail _ (.tail _ (.tail _ (.tail _ h)))) | (intro p9 hp9; repeat (first | exact hp9 | refine List.Mem.tail _ ?_)))); (case q7a => (rfl))))) only [↓wrap_true]
local macro_rules | `(tactic| walk_at "call ref") => `(tactic| (k_here; (with_reducible show wpAny _ _ (call (Value.ref 438) _) _ _ _); k_dflt (refine' use1 (to_jd_pos_spec _ _ _ _ _ _ _) ?k1a438c47 ?k2a438c47 ?k3a438c47 ?k4a438c47 ?k5a438c47 ?kKa438c47 ?kda438c47 ?kua438c47 ?kpa438c47 ?_; (case k1a438c47 => k_asm); (case k2a438c47 => k_asm); (case k3a438c47 => k_asm); (case k4a438c47 => k_asm); (case k5a438c47 => k_asm); (case kKa438c47 => first | exact rfl | assumption); (case kda438c47 => first | omega | ktr_room); (case kua438c47 => first | omega | ktr_units); (case kpa438c47 => first | trivial | assumption | omega | (constructor <;> omega) | k_extra "pre")); intro t9 h9 tk9 F9 N9; (try dsimp only); (try k_sweep); (try k_fold)))
abbrev pE (n : Int) : Int := n - 1721426
abbrev pR (n : Int) : Int := pE n % 146097
abbrev pI (n : Int) : Int := pR n % 36524 % 1461 / 365
abbrev pY (n : Int) : Int := pE n / 146097 * 400 + pR n / 36524 * 100 + pR n % 36524 / 1461 * 4 + pI n
abbrev pD (n : Int) : Int := pE n - pE n / 146097 * 146097 - pR n / 36524 * 36524 - pR n % 36524 / 1461 * 1461 - pI n * 365
def pyr (n : Int) : Int := if pI n = 4 then pY n - 1 else pY n
def pyd (n : Int) : Int := if pI n = 4 then 365 else pD n
theorem pyr_a {n : Int} (h : pI n = 4) : pY n - 1 = pyr n := (if_pos h).symm
theorem pyr_b {n : Int} (h : pI n ≠ 4) : pY n = pyr n := (if_neg h).symm
theorem pyd_a {n : Int} (h : pI n = 4) : 365 = pyd n := (if_pos h).symm
theorem pyd_b {n : Int} (h : pI n ≠ 4) : pD n = pyd n := (if_neg h).symm
def py (n : Int) : Int := pyr n - 1789 + 2
def pm (n : Int) : Int := pyd n / 28 + 1
def pd (n : Int) : Int := pyd n - pyd n / 28 * 28 + 1
theorem from_jd_pos_spec (news) (n : Int) (t1 : Tok) : Call1 w loose mean mg mb 1 445 news [.int n t1] (2374480 ≤ n) (Ret3 (py n) (pm n) (pd n)) := by
  refine unwrap ?_
  simp (disch := k_dflt (
    k_with_none
    k_with "gl" => first | exact gl_EPOCH_gregorian _ | exact gl_INTERCALATION_CYCLE_DAYS _ | exact gl_LEAP_SUPPRESSION_DAYS _ | exact gl_LEAP_CYCLE_DAYS_gregorian _ | exact gl_YEAR_DAYS _ | exact gl_EPOCH_positivist _ | exact gl_LEAP_CYCLE_YEARS_gregorian _ | exact gl_YEAR_EPOCH _ | exact gl_INTERCALATION_CYCLE_YEARS _ | exact gl_LEAP_SUPPRESSION_YEARS _
    k_with "gb" => first | exact gb_AssertionError _ | exact gb_ValueError _ | exact gb_int _
    dsimp only [Call1]
    intro dp un gd cn cs aF ccd cl outer A₀ base h₀ L mp s Q E B F X N T hk hdp hun hpre hret
    refine wpAny_call ?_
    k_dflt cell_enter
    (rename Fr _ _ _ _ => FE)
    (refine' startP (l' := [(Str.ofString "jd", .int n t1)]) ?cs ?nd FE ?e ?S ?_)
    (case cs => (first | (dsimp only; done) | rfl))
    (case nd => kernel_rfl!)
    (case e => kernel_rfl!)
    (case S => with_reducible (apply Sts.cons; apply Sts.nil; (repeat (first | exact Nones.nil | apply Nones.cons)); (all_goals (repeat (first | exact St.here | apply St.there)))))
    (clear FE; intro hnd FE tk0; (try k_fold))
    k_with "try" => skip
    k_with "cut" => ((with_reducible show wpAny _ _ (execs (Stmt.If _ _ _ ⟨586, _, _, _⟩ :: _) _) _ _ _); (rename Fr _ _ _ _ => zF); (rename News _ _ _ _ => zN); k_dflt (refine' cut2 "yearday" (pyd n) "year" (pyr n) (by assumption) zF zN ?zs1 ?zs2 ?_ ?_); (case zs1 => (intro t; with_reducible (repeat (first | exact St.here | apply St.there)))); (case zs2 => (intro t u; with_reducible (repeat (first | exact St.here | apply St.there)))); (all_goals (intros; (try k_sweep); (try k_fold))))
    k_with "cuteq" => with_reducible first | exact pyr_a (by assumption) | exact pyr_b (by assumption) | exact pyd_a (by assumption) | exact pyd_b (by assumption)
    k_steps
    all_goals (refine' end3 hret ?q7a ?q7b ?q7c ?q7f ?q7n ?q7m ?q7s ?q7l; (case q7f => k_asm); (case q7n => k_asm); (case q7m => k_mem); (case q7s => (first | exact fun _ h => h | exact fun _ h => .tail _ h | exact fun _ h => .tail _ (.tail _ h) | exact fun _ h => .tail _ (.tail _ (.tail _ h)) | exact fun _ h => .tail _ (.tail _ (.tail _ (.tail _ h))) | exact fun _ h => .tail _ (.tail _ (.tail _ (.tail _ (.tail _ h)))) | (intro p9 hp9; repeat (first | exact hp9 | refine List.Mem.tail _ ?_)))); (case q7l => (first | assumption | k_extra "lt" | exact allLt_of (by assumption) | exact And.right (by assumption) | (simp only [AllLt, and_true] at *; first | assumption | exact allLt_of (by assumption) | exact And.right (by assumption) | (simp_all; done)))); (case q7a => (rfl)); (case q7b => (rfl)); (case q7c => (rfl))))) only [↓wrap_true]
local macro_rules | `(tactic| walk_at "call ref") => `(tactic| (k_here; (with_reducible show wpAny _ _ (call (Value.ref 445) _) _ _ _); k_dflt (refine' use1 (from_jd_pos_spec _ _ _) ?k1a445c48 ?k2a445c48 ?k3a445c48 ?k4a445c48 ?k5a445c48 ?kKa445c48 ?kda445c48 ?kua445c48 ?kpa445c48 ?_; (case k1a445c48 => k_asm); (case k2a445c48 => k_asm); (case k3a445c48 => k_asm); (case k4a445c48 => k_asm); (case k5a445c48 => k_asm); (case kKa445c48 => first | exact rfl | assumption); (case kda445c48 => first | omega | ktr_room); (case kua445c48 => first | omega | ktr_units); (case kpa445c48 => first | trivial | assumption | omega | (constructor <;> omega) | k_extra "pre")); intro D9 t91 t92 t93 c9 h9 tk9 F9 N9 l9; (try simp only [AllLt, and_true] at l9); (try dsimp only); (try k_sweep); (try k_fold)))
theorem to_greg_pos_spec (news) (y m d : Int) (t1 t2 t3 : Tok) : Call1 w loose mean mg mb 5 452 news [.int y t1, .int m t2, .int d t3] (pok y m d) (Ret3 (cy (pj y m d)) (cm (pj y m d)) (cd (pj y m d))) := by
  refine unwrap ?_
  simp (disch := k_dflt (
    k_with_none
    k_with "gl" => first | exact gl_from_jd_gregorian _ | exact gl_to_jd_positivist _
    dsimp only [Call1]
    intro dp un gd cn cs aF ccd cl outer A₀ base h₀ L mp s Q E B F X N T hk hdp hun hpre hret
    refine wpAny_call ?_
    k_dflt cell_enter
    (rename Fr _ _ _ _ => FE)
    (refine' startP (l' := [(Str.ofString "day", .int d t3), (Str.ofString "month", .int m t2), (Str.ofString "year", .int y t1)]) ?cs ?nd FE ?e ?S ?_)
    (case cs => (first | (dsimp only; done) | rfl))
    (case nd => kernel_rfl!)
    (case e => kernel_rfl!)
    (case S => with_reducible (apply Sts.cons; apply Sts.cons; apply Sts.cons; apply Sts.nil; (repeat (first | exact Nones.nil | apply Nones.cons)); (all_goals (repeat (first | exact St.here | apply St.there)))))
    (clear FE; intro hnd FE tk0; (try k_fold))
    k_steps
    all_goals (refine' end3 hret ?q7a ?q7b ?q7c ?q7f ?q7n ?q7m ?q7s ?q7l; (case q7f => k_asm); (case q7n => k_asm); (case q7m => k_mem); (case q7s => (first | exact fun _ h => h | exact fun _ h => .tail _ h | exact fun _ h => .tail _ (.tail _ h) | exact fun _ h => .tail _ (.tail _ (.tail _ h)) | exact fun _ h => .tail _ (.tail _ (.tail _ (.tail _ h))) | exact fun _ h => .tail _ (.tail _ (.tail _ (.tail _ (.tail _ h)))) | (intro p9 hp9; repeat (first | exact hp9 | refine List.Mem.tail _ ?_)))); (case q7l => (first | assumption | k_extra "lt" | exact allLt_of (by assumption) | exact And.right (by assumption) | (simp only [AllLt, and_true] at *; first | assumption | exact allLt_of (by assumption) | exact And.right (by assumption) | (simp_all; done)))); (case q7a => (rfl)); (case q7b => (rfl)); (case q7c => (rfl))))) only [↓wrap_true]
local macro_rules | `(tactic| walk_at "call ref") => `(tactic| (k_here; (with_reducible show wpAny _ _ (call (Value.ref 452) _) _ _ _); k_dflt (refine' use1 (to_greg_pos_spec _ _ _ _ _ _ _) ?k1a452c49 ?k2a452c49 ?k3a452c49 ?k4a452c49 ?k5a452c49 ?kKa452c49 ?kda452c49 ?kua452c49 ?kpa452c49 ?_; (case k1a452c49 => k_asm); (case k2a452c49 => k_asm); (case k3a452c49 => k_asm); (case k4a452c49 => k_asm); (case k5a452c49 => k_asm); (case kKa452c49 => first | exact rfl | assumption); (case kda452c49 => first | omega | ktr_room); (case kua452c49 => first | omega | ktr_units); (case kpa452c49 => first | trivial | assumption | omega | (constructor <;> omega) | k_extra "pre")); intro D9 t91 t92 t93 c9 h9 tk9 F9 N9 l9; (try simp only [AllLt, and_true] at l9); (try dsimp only); (try k_sweep); (try k_fold)))

end

section

-- A9
-- iso
def wj (y k d : Int) : Int := d + (7 * k + wb 6 (gjd (y - 1) 12 28 - 1))
theorem to_jd_iso_spec (news) (y k d : Int) (t1 t2 t3 : Tok) : Call1 w loose mean mg mb 6 459 news [.int y t1, .int k t2, .int d t3] (0 < k) (RetI (wj y k d)) := by
  refine unwrap ?_
  simp (disch := k_dflt (
    k_with_none
    k_with "gl" => first | exact gl_n_weeks _ | exact gl_SUN _ | exact gl_to_jd_gregorian _
    dsimp only [Call1]
    intro dp un gd cn cs aF ccd cl outer A₀ base h₀ L mp s Q E B F X N T hk hdp hun hpre hret
    refine wpAny_call ?_
    k_dflt cell_enter
    (rename Fr _ _ _ _ => FE)
    (refine' startP (l' := [(Str.ofString "day", .int d t3), (Str.ofString "week", .int k t2), (Str.ofString "year", .int y t1)]) ?cs ?nd FE ?e ?S ?_)
    (case cs => (first | (dsimp only; done) | rfl))
    (case nd => kernel_rfl!)
    (case e => kernel_rfl!)
    (case S => with_reducible (apply Sts.cons; apply Sts.cons; apply Sts.cons; apply Sts.nil; (repeat (first | exact Nones.nil | apply Nones.cons)); (all_goals (repeat (first | exact St.here | apply St.there)))))
    (clear FE; intro hnd FE tk0; (try k_fold))
    k_with "pre" => exact ⟨by decide, by simp [mlen]⟩
    k_steps
    all_goals (refine' endI hret ?q7a ?q7f ?q7n ?q7s; (case q7f => k_asm); (case q7n => k_asm); (case q7s => (first | exact fun _ h => h | exact fun _ h => .tail _ h | exact fun _ h => .tail _ (.tail _ h) | exact fun _ h => .tail _ (.tail _ (.tail _ h)) | exact fun _ h => .tail _ (.tail _ (.tail _ (.tail _ h))) | exact fun _ h => .tail _ (.tail _ (.tail _ (.tail _ (.tail _ h)))) | (intro p9 hp9; repeat (first | exact hp9 | refine List.Mem.tail _ ?_)))); (case q7a => (rfl))))) only [↓wrap_true]
local macro_rules | `(tactic| walk_at "call ref") => `(tactic| (k_here; (with_reducible show wpAny _ _ (call (Value.ref 459) _) _ _ _); k_dflt (refine' use1 (to_jd_iso_spec _ _ _ _ _ _ _) ?k1a459c50 ?k2a459c50 ?k3a459c50 ?k4a459c50 ?k5a459c50 ?kKa459c50 ?kda459c50 ?kua459c50 ?kpa459c50 ?_; (case k1a459c50 => k_asm); (case k2a459c50 => k_asm); (case k3a459c50 => k_asm); (case k4a459c50 => k_asm); (case k5a459c50 => k_asm); (case kKa459c50 => first | exact rfl | assumption); (case kda459c50 => first | omega | ktr_room); (case kua459c50 => first | omega | ktr_units); (case kpa459c50 => first | trivial | assumption | omega | (constructor <;> omega) | k_extra "pre")); intro t9 h9 tk9 F9 N9; (try dsimp only); (try k_sweep); (try k_fold)))
def w1 (y : Int) : Int := if 3 < gjd y 1 1 % 7 then gjd y 1 1 - gjd y 1 1 % 7 + 7 else gjd y 1 1 - gjd y 1 1 % 7
theorem w1_a {y : Int} (h : 3 < gjd y 1 1 % 7) : gjd y 1 1 - gjd y 1 1 % 7 + 7 = w1 y := (if_pos h).symm
theorem w1_b {y : Int} (h : ¬ 3 < gjd y 1 1 % 7) : gjd y 1 1 - gjd y 1 1 % 7 = w1 y := (if_neg h).symm
theorem w1_spec (news) (y : Int) (t1 : Tok) : Call1 w loose mean mg mb 4 473 news [.int y t1] True (RetI (w1 y)) := by
  refine unwrap ?_
  simp (disch := k_dflt (
    k_with_none
    k_with "gl" => first | exact gl_to_jd_gregorian _ | exact gl_jwday _ | exact gl_THU _
    dsimp only [Call1]
    intro dp un gd cn cs aF ccd cl outer A₀ base h₀ L mp s Q E B F X N T hk hdp hun hpre hret
    refine wpAny_call ?_
    k_dflt cell_enter
    (rename Fr _ _ _ _ => FE)
    (refine' startP (l' := [(Str.ofString "year", .int y t1)]) ?cs ?nd FE ?e ?S ?_)
    (case cs => (first | (dsimp only; done) | rfl))
    (case nd => kernel_rfl!)
    (case e => kernel_rfl!)
    (case S => with_reducible (apply Sts.cons; apply Sts.nil; (repeat (first | exact Nones.nil | apply Nones.cons)); (all_goals (repeat (first | exact St.here | apply St.there)))))
    (clear FE; intro hnd FE tk0; (try k_fold))
    k_steps
    all_goals (refine' endI hret ?q7a ?q7f ?q7n ?q7s; (case q7f => k_asm); (case q7n => k_asm); (case q7s => (first | exact fun _ h => h | exact fun _ h => .tail _ h | exact fun _ h => .tail _ (.tail _ h) | exact fun _ h => .tail _ (.tail _ (.tail _ h)) | exact fun _ h => .tail _ (.tail _ (.tail _ (.tail _ h))) | exact fun _ h => .tail _ (.tail _ (.tail _ (.tail _ (.tail _ h)))) | (intro p9 hp9; repeat (first | exact hp9 | refine List.Mem.tail _ ?_)))); (case q7a => (with_reducible first | exact w1_a (by assumption) | exact w1_b (by assumption)))))) only [↓wrap_true]
local macro_rules | `(tactic| walk_at "call ref") => `(tactic| (k_here; (with_reducible show wpAny _ _ (call (Value.ref 473) _) _ _ _); k_dflt (refine' use1 (w1_spec _ _ _) ?k1a473c51 ?k2a473c51 ?k3a473c51 ?k4a473c51 ?k5a473c51 ?kKa473c51 ?kda473c51 ?kua473c51 ?kpa473c51 ?_; (case k1a473c51 => k_asm); (case k2a473c51 => k_asm); (case k3a473c51 => k_asm); (case k4a473c51 => k_asm); (case k5a473c51 => k_asm); (case kKa473c51 => first | exact rfl | assumption); (case kda473c51 => first | omega | ktr_room); (case kua473c51 => first | omega | ktr_units); (case kpa473c51 => first | trivial | assumption | omega | (constructor <;> omega) | k_extra "pre")); intro t9 h9 tk9 F9 N9; (try dsimp only); (try k_sweep); (try k_fold)))
abbrev wq (t y : Int) : Int := (t - w1 y) / 7
def wy (t y : Int) : Int := if wq t y < 0 then y - 1 else if 52 ≤ wq t y ∧ w1 (y + 1) ≤ t then y + 1 else y
def wk (t y : Int) : Int := if wq t y < 0 then wq t (y - 1) + 1 else if 52 ≤ wq t y ∧ w1 (y + 1) ≤ t then 0 + 1 else wq t y + 1
def wd (t y : Int) : Int := if wq t y < 0 then (t - w1 (y - 1)) % 7 + 1 else (t - w1 y) % 7 + 1
theorem wy_a {t y : Int} (h : wq t y < 0) : y - 1 = wy t y := (if_pos h).symm
theorem wy_b {t y : Int} (h : ¬ wq t y < 0) (h2 : 52 ≤ wq t y) (h3 : w1 (y + 1) ≤ t) : y + 1 = wy t y := by rw [wy, if_neg h, if_pos ⟨h2, h3⟩]
theorem wy_c {t y : Int} (h : ¬ wq t y < 0) (h2 : ¬ 52 ≤ wq t y) : y = wy t y := by rw [wy, if_neg h, if_neg fun e => h2 e.1]
theorem wy_d {t y : Int} (h : ¬ wq t y < 0) (h3 : ¬ w1 (y + 1) ≤ t) : y = wy t y := by rw [wy, if_neg h, if_neg fun e => h3 e.2]
theorem wk_a {t y : Int} (h : wq t y < 0) : wq t (y - 1) + 1 = wk t y := (if_pos h).symm
theorem wk_b {t y : Int} (h : ¬ wq t y < 0) (h2 : 52 ≤ wq t y) (h3 : w1 (y + 1) ≤ t) : 0 + 1 = wk t y := by rw [wk, if_neg h, if_pos ⟨h2, h3⟩]
theorem wk_c {t y : Int} (h : ¬ wq t y < 0) (h2 : ¬ 52 ≤ wq t y) : wq t y + 1 = wk t y := by rw [wk, if_neg h, if_neg fun e => h2 e.1]
theorem wk_d {t y : Int} (h : ¬ wq t y < 0) (h3 : ¬ w1 (y + 1) ≤ t) : wq t y + 1 = wk t y := by rw [wk, if_neg h, if_neg fun e => h3 e.2]
theorem wd_a {t y : Int} (h : wq t y < 0) : (t - w1 (y - 1)) % 7 + 1 = wd t y := (if_pos h).symm
theorem wd_b {t y : Int} (h : ¬ wq t y < 0) : (t - w1 y) % 7 + 1 = wd t y := (if_neg h).symm
theorem fgi_spec (news) (y m d : Int) (t1 t2 t3 : Tok) : Call1 w loose mean mg mb 5 480 news [.int y t1, .int m t2, .int d t3] ((1 ≤ y ∧ y ≤ 9999) ∧ legal y m d) (Ret3 (wy (gjd y m d) y) (wk (gjd y m d) y) (wd (gjd y m d) y)) := by
  refine unwrap ?_
  simp (disch := k_dflt (
    k_with_none
    k_with "gl" => first | exact gl_to_jd_gregorian _ | exact gl_month_length_gregorian _ | exact gl_week1monday _
    k_with "gb" => first | exact gb_divmod _ | exact gb_ValueError _
    dsimp only [Call1]
    intro dp un gd cn cs aF ccd cl outer A₀ base h₀ L mp s Q E B F X N T hk hdp hun hpre hret
    refine wpAny_call ?_
    k_dflt cell_enter
    (rename Fr _ _ _ _ => FE)
    (refine' startP (l' := [(Str.ofString "day", .int d t3), (Str.ofString "month", .int m t2), (Str.ofString "year", .int y t1)]) ?cs ?nd FE ?e ?S ?_)
    (case cs => (first | (dsimp only; done) | rfl))
    (case nd => kernel_rfl!)
    (case e => kernel_rfl!)
    (case S => with_reducible (apply Sts.cons; apply Sts.cons; apply Sts.cons; apply Sts.nil; (repeat (first | exact Nones.nil | apply Nones.cons)); (all_goals (repeat (first | exact St.here | apply St.there)))))
    (clear FE; intro hnd FE tk0; (try k_fold))
    obtain ⟨⟨p1, p2⟩, p3, p4, p5, p6⟩ := hpre
    k_with "raise" => omega
    k_with "pre" => exact ⟨by omega, p6⟩
    k_steps
    all_goals (refine' end3 hret ?q7a ?q7b ?q7c ?q7f ?q7n ?q7m ?q7s ?q7l; (case q7f => k_asm); (case q7n => k_asm); (case q7m => k_mem); (case q7s => (first | exact fun _ h => h | exact fun _ h => .tail _ h | exact fun _ h => .tail _ (.tail _ h) | exact fun _ h => .tail _ (.tail _ (.tail _ h)) | exact fun _ h => .tail _ (.tail _ (.tail _ (.tail _ h))) | exact fun _ h => .tail _ (.tail _ (.tail _ (.tail _ (.tail _ h)))) | (intro p9 hp9; repeat (first | exact hp9 | refine List.Mem.tail _ ?_)))); (case q7l => (first | assumption | k_extra "lt" | exact allLt_of (by assumption) | exact And.right (by assumption) | (simp only [AllLt, and_true] at *; first | assumption | exact allLt_of (by assumption) | exact And.right (by assumption) | (simp_all; done)))); (case q7a => (with_reducible first | exact wy_a (by assumption) | exact wy_b (by assumption) (by assumption) (by assumption) | exact wy_c (by assumption) (by assumption) | exact wy_d (by assumption) (by assumption) | exact wk_a (by assumption) | exact wk_b (by assumption) (by assumption) (by assumption) | exact wk_c (by assumption) (by assumption) | exact wk_d (by assumption) (by assumption) | exact wd_a (by assumption) | exact wd_b (by assumption))); (case q7b => (with_reducible first | exact wy_a (by assumption) | exact wy_b (by assumption) (by assumption) (by assumption) | exact wy_c (by assumption) (by assumption) | exact wy_d (by assumption) (by assumption) | exact wk_a (by assumption) | exact wk_b (by assumption) (by assumption) (by assumption) | exact wk_c (by assumption) (by assumption) | exact wk_d (by assumption) (by assumption) | exact wd_a (by assumption) | exact wd_b (by assumption))); (case q7c => (with_reducible first | exact wy_a (by assumption) | exact wy_b (by assumption) (by assumption) (by assumption) | exact wy_c (by assumption) (by assumption) | exact wy_d (by assumption) (by assumption) | exact wk_a (by assumption) | exact wk_b (by assumption) (by assumption) (by assumption) | exact wk_c (by assumption) (by assumption) | exact wk_d (by assumption) (by assumption) | exact wd_a (by assumption) | exact wd_b (by assumption)))))) only [↓wrap_true]
local macro_rules | `(tactic| walk_at "call ref") => `(tactic| (k_here; (with_reducible show wpAny _ _ (call (Value.ref 480) _) _ _ _); k_dflt (refine' use1 (fgi_spec _ _ _ _ _ _ _) ?k1a480c52 ?k2a480c52 ?k3a480c52 ?k4a480c52 ?k5a480c52 ?kKa480c52 ?kda480c52 ?kua480c52 ?kpa480c52 ?_; (case k1a480c52 => k_asm); (case k2a480c52 => k_asm); (case k3a480c52 => k_asm); (case k4a480c52 => k_asm); (case k5a480c52 => k_asm); (case kKa480c52 => first | exact rfl | assumption); (case kda480c52 => first | omega | ktr_room); (case kua480c52 => first | omega | ktr_units); (case kpa480c52 => first | trivial | assumption | omega | (constructor <;> omega) | k_extra "pre")); intro D9 t91 t92 t93 c9 h9 tk9 F9 N9 l9; (try simp only [AllLt, and_true] at l9); (try dsimp only); (try k_sweep); (try k_fold)))
theorem from_jd_iso_spec (news) (n : Int) (t1 : Tok) : Call1 w loose mean mg mb 6 466 news [.int n t1] (1 ≤ cy n ∧ cy n ≤ 9999) (Ret3 (wy n (cy n)) (wk n (cy n)) (wd n (cy n))) := by
  refine unwrap ?_
  simp (disch := k_dflt (
    k_with_none
    k_with "gl" => first | exact gl_from_gregorian_iso _ | exact gl_from_jd_gregorian _
    dsimp only [Call1]
    intro dp un gd cn cs aF ccd cl outer A₀ base h₀ L mp s Q E B F X N T hk hdp hun hpre hret
    refine wpAny_call ?_
    k_dflt cell_enter
    (rename Fr _ _ _ _ => FE)
    (refine' startP (l' := [(Str.ofString "jd", .int n t1)]) ?cs ?nd FE ?e ?S ?_)
    (case cs => (first | (dsimp only; done) | rfl))
    (case nd => kernel_rfl!)
    (case e => kernel_rfl!)
    (case S => with_reducible (apply Sts.cons; apply Sts.nil; (repeat (first | exact Nones.nil | apply Nones.cons)); (all_goals (repeat (first | exact St.here | apply St.there)))))
    (clear FE; intro hnd FE tk0; (try k_fold))
    k_with "pre" => exact ⟨hpre, civ_legal n⟩
    k_steps
    all_goals (refine' end3 hret ?q7a ?q7b ?q7c ?q7f ?q7n ?q7m ?q7s ?q7l; (case q7f => k_asm); (case q7n => k_asm); (case q7m => k_mem); (case q7s => (first | exact fun _ h => h | exact fun _ h => .tail _ h | exact fun _ h => .tail _ (.tail _ h) | exact fun _ h => .tail _ (.tail _ (.tail _ h)) | exact fun _ h => .tail _ (.tail _ (.tail _ (.tail _ h))) | exact fun _ h => .tail _ (.tail _ (.tail _ (.tail _ (.tail _ h)))) | (intro p9 hp9; repeat (first | exact hp9 | refine List.Mem.tail _ ?_)))); (case q7l => (first | assumption | k_extra "lt" | exact allLt_of (by assumption) | exact And.right (by assumption) | (simp only [AllLt, and_true] at *; first | assumption | exact allLt_of (by assumption) | exact And.right (by assumption) | (simp_all; done)))); (case q7a => ((rw [civ_day]))); (case q7b => ((rw [civ_day]))); (case q7c => ((rw [civ_day])))))) only [↓wrap_true]
local macro_rules | `(tactic| walk_at "call ref") => `(tactic| (k_here; (with_reducible show wpAny _ _ (call (Value.ref 466) _) _ _ _); k_dflt (refine' use1 (from_jd_iso_spec _ _ _) ?k1a466c53 ?k2a466c53 ?k3a466c53 ?k4a466c53 ?k5a466c53 ?kKa466c53 ?kda466c53 ?kua466c53 ?kpa466c53 ?_; (case k1a466c53 => k_asm); (case k2a466c53 => k_asm); (case k3a466c53 => k_asm); (case k4a466c53 => k_asm); (case k5a466c53 => k_asm); (case kKa466c53 => first | exact rfl | assumption); (case kda466c53 => first | omega | ktr_room); (case kua466c53 => first | omega | ktr_units); (case kpa466c53 => first | trivial | assumption | omega | (constructor <;> omega) | k_extra "pre")); intro D9 t91 t92 t93 c9 h9 tk9 F9 N9 l9; (try simp only [AllLt, and_true] at l9); (try dsimp only); (try k_sweep); (try k_fold)))
theorem to_greg_iso_spec (news) (y k d : Int) (t1 t2 t3 : Tok) : Call1 w loose mean mg mb 7 487 news [.int y t1, .int k t2, .int d t3] (0 < k) (Ret3 (cy (wj y k d)) (cm (wj y k d)) (cd (wj y k d))) := by
  refine unwrap ?_
  simp (disch := k_dflt (
    k_with_none
    k_with "gl" => first | exact gl_from_jd_gregorian _ | exact gl_to_jd_iso _
    dsimp only [Call1]
    intro dp un gd cn cs aF ccd cl outer A₀ base h₀ L mp s Q E B F X N T hk hdp hun hpre hret
    refine wpAny_call ?_
    k_dflt cell_enter
    (rename Fr _ _ _ _ => FE)
    (refine' startP (l' := [(Str.ofString "day", .int d t3), (Str.ofString "week", .int k t2), (Str.ofString "year", .int y t1)]) ?cs ?nd FE ?e ?S ?_)
    (case cs => (first | (dsimp only; done) | rfl))
    (case nd => kernel_rfl!)
    (case e => kernel_rfl!)
    (case S => with_reducible (apply Sts.cons; apply Sts.cons; apply Sts.cons; apply Sts.nil; (repeat (first | exact Nones.nil | apply Nones.cons)); (all_goals (repeat (first | exact St.here | apply St.there)))))
    (clear FE; intro hnd FE tk0; (try k_fold))
    k_steps
    all_goals (refine' end3 hret ?q7a ?q7b ?q7c ?q7f ?q7n ?q7m ?q7s ?q7l; (case q7f => k_asm); (case q7n => k_asm); (case q7m => k_mem); (case q7s => (first | exact fun _ h => h | exact fun _ h => .tail _ h | exact fun _ h => .tail _ (.tail _ h) | exact fun _ h => .tail _ (.tail _ (.tail _ h)) | exact fun _ h => .tail _ (.tail _ (.tail _ (.tail _ h))) | exact fun _ h => .tail _ (.tail _ (.tail _ (.tail _ (.tail _ h)))) | (intro p9 hp9; repeat (first | exact hp9 | refine List.Mem.tail _ ?_)))); (case q7l => (first | assumption | k_extra "lt" | exact allLt_of (by assumption) | exact And.right (by assumption) | (simp only [AllLt, and_true] at *; first | assumption | exact allLt_of (by assumption) | exact And.right (by assumption) | (simp_all; done)))); (case q7a => (rfl)); (case q7b => (rfl)); (case q7c => (rfl))))) only [↓wrap_true]
local macro_rules | `(tactic| walk_at "call ref") => `(tactic| (k_here; (with_reducible show wpAny _ _ (call (Value.ref 487) _) _ _ _); k_dflt (refine' use1 (to_greg_iso_spec _ _ _ _ _ _ _) ?k1a487c54 ?k2a487c54 ?k3a487c54 ?k4a487c54 ?k5a487c54 ?kKa487c54 ?kda487c54 ?kua487c54 ?kpa487c54 ?_; (case k1a487c54 => k_asm); (case k2a487c54 => k_asm); (case k3a487c54 => k_asm); (case k4a487c54 => k_asm); (case k5a487c54 => k_asm); (case kKa487c54 => first | exact rfl | assumption); (case kda487c54 => first | omega | ktr_room); (case kua487c54 => first | omega | ktr_units); (case kpa487c54 => first | trivial | assumption | omega | (constructor <;> omega) | k_extra "pre")); intro D9 t91 t92 t93 c9 h9 tk9 F9 N9 l9; (try simp only [AllLt, and_true] at l9); (try dsimp only); (try k_sweep); (try k_fold)))

end

section

-- A10
-- calls with a keyword
abbrev CallK (w : World) (loose : List Str) (mean : ExcName → Option Value) (mg mb : Str → Option Value) (lv : Nat) (f : Addr) (news : List (Addr × Obj)) (vs : List Value) (kw : List (Str × Value)) (pre : Prop)
    (Ret : Heap → Addr → (Str → Option Value) → List (Addr × Obj) → Shared → (Value → Shared → Prop) → Prop) : Prop :=
  ∀ (dp un : Nat) (gd : Option (List Code)) (cn : Str) (cs : Scope) (a : Addr) (ccd : Value) (cl : List (Str × Addr)) (outer : List Env) (A₀ : Around) (base h₀ : Heap) (L : Addr) (m : Str → Option Value) (s : Shared) (Q E : Value → Shared → Prop),
    Below A₀ base outer h₀ → Fr h₀ L s.heap m → (hd.heap_39 w.params).In h₀ → News h₀ L s.heap news → Top hd.view_39 loose mean mg mb h₀ → cs.kind = .function →
    dp + lv < recursionLimit → un + 8 * lv < cLine → pre → Ret h₀ L m news s Q →
      wpAny (model PG w) (ktrTop dp un gd cn cs L a ccd cl outer) (call (.ref f) vs kw) Q E s
theorem useK {lv : Nat} {f : Addr} {vs : List Value} {kw : List (Str × Value)} {pre : Prop} {Ret : Heap → Addr → (Str → Option Value) → List (Addr × Obj) → Shared → (Value → Shared → Prop) → Prop}
    {dp un : Nat} {gd : Option (List Code)} {cn : Str} {cs : Scope} {a : Addr} {ccd : Value} {cl : List (Str × Addr)} {outer : List Env} {A₀ : Around} {base h₀ : Heap} {L : Addr} {m : Str → Option Value} {news : List (Addr × Obj)} {s : Shared} {Q E : Value → Shared → Prop}
    (C : CallK w loose mean mg mb lv f news vs kw pre Ret)
    (B : Below A₀ base outer h₀) (F : Fr h₀ L s.heap m) (X : (hd.heap_39 w.params).In h₀) (N : News h₀ L s.heap news) (T : Top hd.view_39 loose mean mg mb h₀) (hk : cs.kind = .function)
    (hd' : dp + lv < recursionLimit) (hu : un + 8 * lv < cLine) (hp : pre) (hr : Ret h₀ L m news s Q) :
    wpAny (model PG w) (ktrTop dp un gd cn cs L a ccd cl outer) (call (.ref f) vs kw) Q E s :=
  C dp un gd cn cs a ccd cl outer A₀ base h₀ L m s Q E B F X N T hk hd' hu hp hr
theorem in_two {prog : Program} {wd : World} {A : Around} {E : Value → Shared → Prop} {s : Shared} {h₀ : Heap} {L D : Addr} {news : List (Addr × Obj)} {n : Int} {a b : Str} {t u v : Tok} {c : Nat} {Q : Value → Shared → Prop} (r : Bool)
    (N : News h₀ L s.heap news) (hm : (D, ({ cls := .type "tuple", data := .seq #[.int n t, .str a u] c } : Obj)) ∈ news) (e : (a == b) = r) (h : Q (.bool r) s) : wpAny (model prog wd) A (compareOp .In (.str b v) (.ref D)) Q E s := by
  refine PySem.SeqAt.in_tupleAt (fun y => match y with | .str z _ => z == b | _ => false) (News.isTup N hm) (fun y hy => ?_) ?_
  · have hy' : y ∈ [Value.int n t, Value.str a u] := by simpa using hy
    rcases List.mem_cons.mp hy' with rfl | hy'
    · exact PySem.SeqAt.EqAt.int_str _ _ _ _
    · rw [List.mem_singleton.mp hy']
      exact PySem.SeqAt.EqAt.str_str _ _ _ _
  · have : (#[Value.int n t, Value.str a u].any fun y => match y with | .str z _ => z == b | _ => false) = r := by simp [e]
    rw [this]
    exact h
local macro_rules | `(tactic| walk_at "compareOp In str ref") => `(tactic| (k_here; k_dflt (first
  | (refine' in_two true ?ziN ?zim ?zie ?_; (case ziN => k_asm); (case zim => k_mem); (case zie => kernel_rfl!))
  | (refine' in_two false ?zjN ?zjm ?zje ?_; (case zjN => k_asm); (case zjm => k_mem); (case zje => kernel_rfl!)))))
-- french
abbrev KCont (t : Tok) : Value := .str (Str.ofString "continuous") t
theorem fleap_a {y : Int} (h : y = 3 ∨ y = 7 ∨ y = 11) : true = (y % 4 == 3) := by rcases h with h | h | h <;> subst h <;> rfl
theorem fleap_b {y : Int} (h : ¬ y = 3 ∧ ¬ y = 7 ∧ ¬ y = 11) (h2 : y < 15) (h3 : 1 ≤ y) : false = (y % 4 == 3) := by
  have : ¬ y % 4 = 3 := by omega
  simp [this]
theorem fleap_spec (news) (y : Int) (t1 t2 : Tok) : CallK w loose mean mg mb 1 386 news [.int y t1] [(Str.ofString "method", KCont t2)] (1 ≤ y) (RetB (y % 4 == 3)) := by
  refine unwrap ?_
  simp (disch := k_dflt (
    k_with_none
    k_with "gb" => first | exact gb_ValueError _
    dsimp only [CallK]
    intro dp un gd cn cs aF ccd cl outer A₀ base h₀ L mp s Q E B F X N T hk hdp hun hpre hret
    refine wpAny_call ?_
    k_dflt (refine' code_def ?k1 ?k2 ?k3 ?k4 ?k5 ?kA ?kF ?kK ?k6 ?k7 ?k8 ?k9 ?kB ?_ ?c2 ?c3 ?c4 ?c5; (case kA => exact rfl); (case kF => exact rfl); (case kK => assumption); (case k1 => k_asm); (case k2 => k_asm); (case k3 => k_asm); (case k4 => k_asm); (case k5 => k_asm); (case k6 => k_is); (case k7 => k_is); (case k8 => ktr_room); (case k9 => exact binds_K (by k_in) rfl (by k_is) rfl rfl rfl); (case c5 => decide); (case kB => exact locs rfl); (case c2 => exact rfl); (case c3 => exact rfl); (case c4 => exact rfl); k_whole; intro g' L' h' FG' F' N' B' X' T'; (try dsimp only); (try k_lift B'); (try k_fold))
    (rename Fr _ _ _ _ => FE)
    (refine' startP (l' := [(Str.ofString "method", KCont t2), (Str.ofString "year", .int y t1)]) ?cs ?nd FE ?e ?S ?_)
    (case cs => (first | (dsimp only; done) | rfl))
    (case nd => kernel_rfl!)
    (case e => kernel_rfl!)
    (case S => with_reducible (apply Sts.cons; apply Sts.cons; apply Sts.nil; (repeat (first | exact Nones.nil | apply Nones.cons)); (all_goals (repeat (first | exact St.here | apply St.there)))))
    (clear FE; intro hnd FE tk0; (try k_fold))
    k_steps
    all_goals (refine' endB hret ?q7a ?q7f ?q7n ?q7s; (case q7f => k_asm); (case q7n => k_asm); (case q7s => (first | exact fun _ h => h | exact fun _ h => .tail _ h | exact fun _ h => .tail _ (.tail _ h) | exact fun _ h => .tail _ (.tail _ (.tail _ h)) | exact fun _ h => .tail _ (.tail _ (.tail _ (.tail _ h))) | exact fun _ h => .tail _ (.tail _ (.tail _ (.tail _ (.tail _ h)))) | (intro p9 hp9; repeat (first | exact hp9 | refine List.Mem.tail _ ?_)))); (case q7a => (with_reducible first | rfl | exact fleap_a (by assumption) | exact fleap_b (by assumption) (by assumption) hpre))))) only [↓wrap_true]
local macro_rules | `(tactic| walk_at "call ref") => `(tactic| (k_here; (with_reducible show wpAny _ _ (call (Value.ref 386) _ _) _ _ _); k_dflt (refine' useK (fleap_spec _ _ _ _) ?k1ak386c55 ?k2ak386c55 ?k3ak386c55 ?k4ak386c55 ?k5ak386c55 ?kKak386c55 ?kdak386c55 ?kuak386c55 ?kpak386c55 ?_; (case k1ak386c55 => k_asm); (case k2ak386c55 => k_asm); (case k3ak386c55 => k_asm); (case k4ak386c55 => k_asm); (case k5ak386c55 => k_asm); (case kKak386c55 => first | exact rfl | assumption); (case kdak386c55 => first | omega | ktr_room); (case kuak386c55 => first | omega | ktr_units); (case kpak386c55 => first | trivial | assumption | omega | (constructor <;> omega) | k_extra "pre")); intro h9 tk9 F9 N9; (try dsimp only); (try k_sweep); (try k_fold)))
def fj (y m d : Int) : Int := 2375840 + (0 + 0 + 0 + y / 4 * 1461 + y % 4 * 365 + -365) + (m - 1) * 30 + d - 1
theorem fts_spec (news) (y m d : Int) (t1 t2 t3 t4 : Tok) : Call1 w loose mean mg mb 2 401 news [.int y t1, .int m t2, .int d t3, KCont t4] (0 ≤ y) (RetI (fj y m d)) := by
  refine unwrap ?_
  simp (disch := k_dflt (
    k_with_none
    k_with "gl" => first | exact gl_LEAP_CYCLE_DAYS_french_republican _ | exact gl_LEAP_CYCLE_YEARS_french_republican _ | exact gl_DAYS_IN_YEAR _ | exact gl_trunc _ | exact gl_EPOCH_french_republican _
    k_with "gb" => first | exact gb_ValueError _
    dsimp only [Call1]
    intro dp un gd cn cs aF ccd cl outer A₀ base h₀ L mp s Q E B F X N T hk hdp hun hpre hret
    refine wpAny_call ?_
    k_dflt cell_enter
    (rename Fr _ _ _ _ => FE)
    (refine' startP (l' := [(Str.ofString "method", KCont t4), (Str.ofString "day", .int d t3), (Str.ofString "month", .int m t2), (Str.ofString "year", .int y t1)]) ?cs ?nd FE ?e ?S ?_)
    (case cs => (first | (dsimp only; done) | rfl))
    (case nd => kernel_rfl!)
    (case e => kernel_rfl!)
    (case S => with_reducible (apply Sts.cons; apply Sts.cons; apply Sts.cons; apply Sts.cons; apply Sts.nil; (repeat (first | exact Nones.nil | apply Nones.cons)); (all_goals (repeat (first | exact St.here | apply St.there)))))
    (clear FE; intro hnd FE tk0; (try k_fold))
    k_with "pre" => (refine ⟨?_, by decide, by decide⟩; omega)
    k_steps
    all_goals (refine' endI hret ?q7a ?q7f ?q7n ?q7s; (case q7f => k_asm); (case q7n => k_asm); (case q7s => (first | exact fun _ h => h | exact fun _ h => .tail _ h | exact fun _ h => .tail _ (.tail _ h) | exact fun _ h => .tail _ (.tail _ (.tail _ h)) | exact fun _ h => .tail _ (.tail _ (.tail _ (.tail _ h))) | exact fun _ h => .tail _ (.tail _ (.tail _ (.tail _ (.tail _ h)))) | (intro p9 hp9; repeat (first | exact hp9 | refine List.Mem.tail _ ?_)))); (case q7a => (rfl))))) only [↓wrap_true]
local macro_rules | `(tactic| walk_at "call ref") => `(tactic| (k_here; (with_reducible show wpAny _ _ (call (Value.ref 401) _) _ _ _); k_dflt (refine' use1 (fts_spec _ _ _ _ _ _ _ _) ?k1a401c56 ?k2a401c56 ?k3a401c56 ?k4a401c56 ?k5a401c56 ?kKa401c56 ?kda401c56 ?kua401c56 ?kpa401c56 ?_; (case k1a401c56 => k_asm); (case k2a401c56 => k_asm); (case k3a401c56 => k_asm); (case k4a401c56 => k_asm); (case k5a401c56 => k_asm); (case kKa401c56 => first | exact rfl | assumption); (case kda401c56 => first | omega | ktr_room); (case kua401c56 => first | omega | ktr_units); (case kpa401c56 => first | trivial | assumption | omega | (constructor <;> omega) | k_extra "pre")); intro t9 h9 tk9 F9 N9; (try dsimp only); (try k_sweep); (try k_fold)))
abbrev fok (y m d : Int) : Prop := 1 ≤ y ∧ m ≤ 13 ∧ 1 ≤ d ∧ d ≤ 30 ∧ (m ≤ 12 ∨ d ≤ 5 ∨ (d ≤ 6 ∧ y % 4 = 3))
theorem to_jd_french_spec (news) (y m d : Int) (t1 t2 t3 t4 : Tok) : CallK w loose mean mg mb 3 394 news [.int y t1, .int m t2, .int d t3] [(Str.ofString "method", KCont t4)] (fok y m d) (RetI (fj y m d)) := by
  refine unwrap ?_
  simp (disch := k_dflt (
    k_with_none
    k_with "gl" => first | exact gl_to_jd_schematic _ | exact gl_leap_french_republican _
    k_with "gb" => first | exact gb_ValueError _
    dsimp only [CallK]
    intro dp un gd cn cs aF ccd cl outer A₀ base h₀ L mp s Q E B F X N T hk hdp hun hpre hret
    refine wpAny_call ?_
    k_dflt (refine' code_def ?k1 ?k2 ?k3 ?k4 ?k5 ?kA ?kF ?kK ?k6 ?k7 ?k8 ?k9 ?kB ?_ ?c2 ?c3 ?c4 ?c5; (case kA => exact rfl); (case kF => exact rfl); (case kK => assumption); (case k1 => k_asm); (case k2 => k_asm); (case k3 => k_asm); (case k4 => k_asm); (case k5 => k_asm); (case k6 => k_is); (case k7 => k_is); (case k8 => ktr_room); (case k9 => exact binds_K (by k_in) rfl (by k_is) rfl rfl rfl); (case c5 => decide); (case kB => exact locs rfl); (case c2 => exact rfl); (case c3 => exact rfl); (case c4 => exact rfl); k_whole; intro g' L' h' FG' F' N' B' X' T'; (try dsimp only); (try k_lift B'); (try k_fold))
    (rename Fr _ _ _ _ => FE)
    (refine' startP (l' := [(Str.ofString "method", KCont t4), (Str.ofString "day", .int d t3), (Str.ofString "month", .int m t2), (Str.ofString "year", .int y t1)]) ?cs ?nd FE ?e ?S ?_)
    (case cs => (first | (dsimp only; done) | rfl))
    (case nd => kernel_rfl!)
    (case e => kernel_rfl!)
    (case S => with_reducible (apply Sts.cons; apply Sts.cons; apply Sts.cons; apply Sts.cons; apply Sts.nil; (repeat (first | exact Nones.nil | apply Nones.cons)); (all_goals (repeat (first | exact St.here | apply St.there)))))
    (clear FE; intro hnd FE tk0; (try k_fold))
    obtain ⟨p1, p2, p3, p4, p5⟩ := hpre
    k_with "raise" => (simp_all; omega)
    k_steps
    all_goals (refine' endI hret ?q7a ?q7f ?q7n ?q7s; (case q7f => k_asm); (case q7n => k_asm); (case q7s => (first | exact fun _ h => h | exact fun _ h => .tail _ h | exact fun _ h => .tail _ (.tail _ h) | exact fun _ h => .tail _ (.tail _ (.tail _ h)) | exact fun _ h => .tail _ (.tail _ (.tail _ (.tail _ h))) | exact fun _ h => .tail _ (.tail _ (.tail _ (.tail _ (.tail _ h)))) | (intro p9 hp9; repeat (first | exact hp9 | refine List.Mem.tail _ ?_)))); (case q7a => (rfl))))) only [↓wrap_true]
local macro_rules | `(tactic| walk_at "call ref") => `(tactic| (k_here; (with_reducible show wpAny _ _ (call (Value.ref 394) _ _) _ _ _); k_dflt (refine' useK (to_jd_french_spec _ _ _ _ _ _ _ _) ?k1ak394c57 ?k2ak394c57 ?k3ak394c57 ?k4ak394c57 ?k5ak394c57 ?kKak394c57 ?kdak394c57 ?kuak394c57 ?kpak394c57 ?_; (case k1ak394c57 => k_asm); (case k2ak394c57 => k_asm); (case k3ak394c57 => k_asm); (case k4ak394c57 => k_asm); (case k5ak394c57 => k_asm); (case kKak394c57 => first | exact rfl | assumption); (case kdak394c57 => first | omega | ktr_room); (case kuak394c57 => first | omega | ktr_units); (case kpak394c57 => first | trivial | assumption | omega | (constructor <;> omega) | k_extra "pre")); intro t9 h9 tk9 F9 N9; (try dsimp only); (try k_sweep); (try k_fold)))
theorem to_greg_french_spec (news) (y m d : Int) (t1 t2 t3 t4 : Tok) : Call1 w loose mean mg mb 5 424 news [.int y t1, .int m t2, .int d t3, KCont t4] (fok y m d) (Ret3 (cy (fj y m d)) (cm (fj y m d)) (cd (fj y m d))) := by
  refine unwrap ?_
  simp (disch := k_dflt (
    k_with_none
    k_with "gl" => first | exact gl_from_jd_gregorian _ | exact gl_to_jd_french_republican _
    dsimp only [Call1]
    intro dp un gd cn cs aF ccd cl outer A₀ base h₀ L mp s Q E B F X N T hk hdp hun hpre hret
    refine wpAny_call ?_
    k_dflt (refine' code_def ?k1 ?k2 ?k3 ?k4 ?k5 ?kA ?kF ?kK ?k6 ?k7 ?k8 ?k9 ?kB ?_ ?c2 ?c3 ?c4 ?c5; (case kA => exact rfl); (case kF => exact rfl); (case kK => assumption); (case k1 => k_asm); (case k2 => k_asm); (case k3 => k_asm); (case k4 => k_asm); (case k5 => k_asm); (case k6 => k_is); (case k7 => k_is); (case k8 => ktr_room); (case k9 => exact binds_K (by k_in) rfl (by k_is) rfl rfl rfl); (case c5 => decide); (case kB => exact locs rfl); (case c2 => exact rfl); (case c3 => exact rfl); (case c4 => exact rfl); k_whole; intro g' L' h' FG' F' N' B' X' T'; (try dsimp only); (try k_lift B'); (try k_fold))
    (rename Fr _ _ _ _ => FE)
    (refine' startP (l' := [(Str.ofString "method", KCont t4), (Str.ofString "jour", .int d t3), (Str.ofString "mois", .int m t2), (Str.ofString "an", .int y t1)]) ?cs ?nd FE ?e ?S ?_)
    (case cs => (first | (dsimp only; done) | rfl))
    (case nd => kernel_rfl!)
    (case e => kernel_rfl!)
    (case S => with_reducible (apply Sts.cons; apply Sts.cons; apply Sts.cons; apply Sts.cons; apply Sts.nil; (repeat (first | exact Nones.nil | apply Nones.cons)); (all_goals (repeat (first | exact St.here | apply St.there)))))
    (clear FE; intro hnd FE tk0; (try k_fold))
    k_steps
    all_goals (refine' end3 hret ?q7a ?q7b ?q7c ?q7f ?q7n ?q7m ?q7s ?q7l; (case q7f => k_asm); (case q7n => k_asm); (case q7m => k_mem); (case q7s => (first | exact fun _ h => h | exact fun _ h => .tail _ h | exact fun _ h => .tail _ (.tail _ h) | exact fun _ h => .tail _ (.tail _ (.tail _ h)) | exact fun _ h => .tail _ (.tail _ (.tail _ (.tail _ h))) | exact fun _ h => .tail _ (.tail _ (.tail _ (.tail _ (.tail _ h)))) | (intro p9 hp9; repeat (first | exact hp9 | refine List.Mem.tail _ ?_)))); (case q7l => (first | assumption | k_extra "lt" | exact allLt_of (by assumption) | exact And.right (by assumption) | (simp only [AllLt, and_true] at *; first | assumption | exact allLt_of (by assumption) | exact And.right (by assumption) | (simp_all; done)))); (case q7a => (rfl)); (case q7b => (rfl)); (case q7c => (rfl))))) only [↓wrap_true]
local macro_rules | `(tactic| walk_at "call ref") => `(tactic| (k_here; (with_reducible show wpAny _ _ (call (Value.ref 424) _) _ _ _); k_dflt (refine' use1 (to_greg_french_spec _ _ _ _ _ _ _ _) ?k1a424c58 ?k2a424c58 ?k3a424c58 ?k4a424c58 ?k5a424c58 ?kKa424c58 ?kda424c58 ?kua424c58 ?kpa424c58 ?_; (case k1a424c58 => k_asm); (case k2a424c58 => k_asm); (case k3a424c58 => k_asm); (case k4a424c58 => k_asm); (case k5a424c58 => k_asm); (case kKa424c58 => first | exact rfl | assumption); (case kda424c58 => first | omega | ktr_room); (case kua424c58 => first | omega | ktr_units); (case kpa424c58 => first | trivial | assumption | omega | (constructor <;> omega) | k_extra "pre")); intro D9 t91 t92 t93 c9 h9 tk9 F9 N9 l9; (try simp only [AllLt, and_true] at l9); (try dsimp only); (try k_sweep); (try k_fold)))
abbrev fJ (n : Int) : Int := n - 2375840 + 365
def fR (n : Int) : Int := fJ n % 1461
theorem fR_a {n : Int} (h : fJ n % 1461 = 1461 - 1) : 1460 = fR n := h.symm
def f4 (n : Int) : Int := if fR n = 365 * 4 then fR n / 365 - 1 else fR n / 365
def fk (n : Int) : Int := if fR n = 365 * 4 then 365 else fR n % 365
theorem f4_a {n : Int} (h : fR n = 365 * 4) : fR n / 365 - 1 = f4 n := (if_pos h).symm
theorem f4_b {n : Int} (h : fR n ≠ 365 * 4) : fR n / 365 = f4 n := (if_neg h).symm
theorem fk_a {n : Int} (h : fR n = 365 * 4) : 365 = fk n := (if_pos h).symm
theorem fk_b {n : Int} (h : fR n ≠ 365 * 4) : fR n % 365 = fk n := (if_neg h).symm
def fy (n : Int) : Int := 0 + 0 + 0 + fJ n / 1461 * 4 + f4 n + -1 + 1
def fm (n : Int) : Int := fk n / 30 + 1
def fd (n : Int) : Int := fk n - fk n / 30 * 30 + 1
theorem fR_pos (n : Int) : 0 ≤ fR n := by unfold fR; omega
theorem fk_pos (n : Int) : 0 ≤ fk n := by have := fR_pos n; unfold fk; split <;> omega
theorem ffs_spec (news) (n : Int) (t1 t2 : Tok) : Call1 w loose mean mg mb 2 416 news [.int n t1, KCont t2] (2375840 ≤ n) (Ret3 (fy n) (fm n) (fd n)) := by
  refine unwrap ?_
  simp (disch := k_dflt (
    k_with_none
    k_with "gl" => first | exact gl_EPOCH_french_republican _ | exact gl_LEAP_CYCLE_YEARS_french_republican _ | exact gl_trunc _ | exact gl_DAYS_IN_YEAR _ | exact gl_LEAP_CYCLE_DAYS_french_republican _
    k_with "gb" => first | exact gb_ValueError _
    dsimp only [Call1]
    intro dp un gd cn cs aF ccd cl outer A₀ base h₀ L mp s Q E B F X N T hk hdp hun hpre hret
    refine wpAny_call ?_
    k_dflt cell_enter
    (rename Fr _ _ _ _ => FE)
    (refine' startP (l' := [(Str.ofString "method", KCont t2), (Str.ofString "jd", .int n t1)]) ?cs ?nd FE ?e ?S ?_)
    (case cs => (first | (dsimp only; done) | rfl))
    (case nd => kernel_rfl!)
    (case e => kernel_rfl!)
    (case S => with_reducible (apply Sts.cons; apply Sts.cons; apply Sts.nil; (repeat (first | exact Nones.nil | apply Nones.cons)); (all_goals (repeat (first | exact St.here | apply St.there)))))
    (clear FE; intro hnd FE tk0; (try k_fold))
    k_with "cut" => ((with_reducible show wpAny _ _ (execs (Stmt.If _ _ _ ⟨504, _, _, _⟩ :: _) _) _ _ _); (rename Fr _ _ _ _ => zF); (rename News _ _ _ _ => zN); k_dflt (refine' cut1 "J" (n - 2375840) (by assumption) zF zN ?zs1 ?_ ?_); (case zs1 => (intro t; with_reducible (repeat (first | exact St.here | apply St.there)))); (all_goals (intros; (try k_sweep); (try k_fold))))
    k_with "cut" => ((with_reducible show wpAny _ _ (execs (Stmt.If _ _ _ ⟨533, _, _, _⟩ :: _) _) _ _ _); (rename Fr _ _ _ _ => zF); (rename News _ _ _ _ => zN); k_dflt (refine' cut1 "J" (fR n) (by assumption) zF zN ?zs1 ?_ ?_); (case zs1 => (intro t; with_reducible (repeat (first | exact St.here | apply St.there)))); (all_goals (intros; (try k_sweep); (try k_fold))))
    k_with "cut" => ((with_reducible show wpAny _ _ (execs (Stmt.If _ _ _ ⟨538, _, _, _⟩ :: _) _) _ _ _); (rename Fr _ _ _ _ => zF); (rename News _ _ _ _ => zN); k_dflt (refine' cut2 "y4" (f4 n) "J" (fk n) (by assumption) zF zN ?zs1 ?zs2 ?_ ?_); (case zs1 => (intro t; with_reducible (repeat (first | exact St.here | apply St.there)))); (case zs2 => (intro t u; with_reducible (repeat (first | exact St.here | apply St.there)))); (all_goals (intros; (try k_sweep); (try k_fold))))
    k_with "cuteq" => with_reducible first | rfl | exact fR_a (by assumption) | exact f4_a (by assumption) | exact f4_b (by assumption) | exact fk_a (by assumption) | exact fk_b (by assumption) | with_unfolding_all rfl
    k_with "raise" => omega
    k_with "pre" => first | exact ⟨fR_pos n, by decide, by decide⟩ | exact ⟨fk_pos n, by decide, by decide⟩ | (refine ⟨?_, by decide, by decide⟩; omega)
    k_steps
    all_goals (refine' end3 hret ?q7a ?q7b ?q7c ?q7f ?q7n ?q7m ?q7s ?q7l; (case q7f => k_asm); (case q7n => k_asm); (case q7m => k_mem); (case q7s => (first | exact fun _ h => h | exact fun _ h => .tail _ h | exact fun _ h => .tail _ (.tail _ h) | exact fun _ h => .tail _ (.tail _ (.tail _ h)) | exact fun _ h => .tail _ (.tail _ (.tail _ (.tail _ h))) | exact fun _ h => .tail _ (.tail _ (.tail _ (.tail _ (.tail _ h)))) | (intro p9 hp9; repeat (first | exact hp9 | refine List.Mem.tail _ ?_)))); (case q7l => (first | assumption | k_extra "lt" | exact allLt_of (by assumption) | exact And.right (by assumption) | (simp only [AllLt, and_true] at *; first | assumption | exact allLt_of (by assumption) | exact And.right (by assumption) | (simp_all; done)))); (case q7a => (rfl)); (case q7b => (rfl)); (case q7c => (rfl))))) only [↓wrap_true]
local macro_rules | `(tactic| walk_at "call ref") => `(tactic| (k_here; (with_reducible show wpAny _ _ (call (Value.ref 416) _) _ _ _); k_dflt (refine' use1 (ffs_spec _ _ _ _) ?k1a416c59 ?k2a416c59 ?k3a416c59 ?k4a416c59 ?k5a416c59 ?kKa416c59 ?kda416c59 ?kua416c59 ?kpa416c59 ?_; (case k1a416c59 => k_asm); (case k2a416c59 => k_asm); (case k3a416c59 => k_asm); (case k4a416c59 => k_asm); (case k5a416c59 => k_asm); (case kKa416c59 => first | exact rfl | assumption); (case kda416c59 => first | omega | ktr_room); (case kua416c59 => first | omega | ktr_units); (case kpa416c59 => first | trivial | assumption | omega | (constructor <;> omega) | k_extra "pre")); intro D9 t91 t92 t93 c9 h9 tk9 F9 N9 l9; (try simp only [AllLt, and_true] at l9); (try dsimp only); (try k_sweep); (try k_fold)))
theorem from_jd_french_spec (news) (n : Int) (t1 t2 : Tok) : Call1 w loose mean mg mb 3 409 news [.int n t1, KCont t2] (2375840 ≤ n) (Ret3 (fy n) (fm n) (fd n)) := by
  refine unwrap ?_
  simp (disch := k_dflt (
    k_with_none
    k_with "gl" => first | exact gl_from_jd_schematic _
    dsimp only [Call1]
    intro dp un gd cn cs aF ccd cl outer A₀ base h₀ L mp s Q E B F X N T hk hdp hun hpre hret
    refine wpAny_call ?_
    k_dflt (refine' code_def ?k1 ?k2 ?k3 ?k4 ?k5 ?kA ?kF ?kK ?k6 ?k7 ?k8 ?k9 ?kB ?_ ?c2 ?c3 ?c4 ?c5; (case kA => exact rfl); (case kF => exact rfl); (case kK => assumption); (case k1 => k_asm); (case k2 => k_asm); (case k3 => k_asm); (case k4 => k_asm); (case k5 => k_asm); (case k6 => k_is); (case k7 => k_is); (case k8 => ktr_room); (case k9 => exact binds_K (by k_in) rfl (by k_is) rfl rfl rfl); (case c5 => decide); (case kB => exact locs rfl); (case c2 => exact rfl); (case c3 => exact rfl); (case c4 => exact rfl); k_whole; intro g' L' h' FG' F' N' B' X' T'; (try dsimp only); (try k_lift B'); (try k_fold))
    (rename Fr _ _ _ _ => FE)
    (refine' startP (l' := [(Str.ofString "method", KCont t2), (Str.ofString "jd", .int n t1)]) ?cs ?nd FE ?e ?S ?_)
    (case cs => (first | (dsimp only; done) | rfl))
    (case nd => kernel_rfl!)
    (case e => kernel_rfl!)
    (case S => with_reducible (apply Sts.cons; apply Sts.cons; apply Sts.nil; (repeat (first | exact Nones.nil | apply Nones.cons)); (all_goals (repeat (first | exact St.here | apply St.there)))))
    (clear FE; intro hnd FE tk0; (try k_fold))
    k_steps
    all_goals (refine' end3 hret ?q7a ?q7b ?q7c ?q7f ?q7n ?q7m ?q7s ?q7l; (case q7f => k_asm); (case q7n => k_asm); (case q7m => k_mem); (case q7s => (first | exact fun _ h => h | exact fun _ h => .tail _ h | exact fun _ h => .tail _ (.tail _ h) | exact fun _ h => .tail _ (.tail _ (.tail _ h)) | exact fun _ h => .tail _ (.tail _ (.tail _ (.tail _ h))) | exact fun _ h => .tail _ (.tail _ (.tail _ (.tail _ (.tail _ h)))) | (intro p9 hp9; repeat (first | exact hp9 | refine List.Mem.tail _ ?_)))); (case q7l => (first | assumption | k_extra "lt" | exact allLt_of (by assumption) | exact And.right (by assumption) | (simp only [AllLt, and_true] at *; first | assumption | exact allLt_of (by assumption) | exact And.right (by assumption) | (simp_all; done)))); (case q7a => (rfl)); (case q7b => (rfl)); (case q7c => (rfl))))) only [↓wrap_true]
local macro_rules | `(tactic| walk_at "call ref") => `(tactic| (k_here; (with_reducible show wpAny _ _ (call (Value.ref 409) _) _ _ _); k_dflt (refine' use1 (from_jd_french_spec _ _ _ _) ?k1a409c60 ?k2a409c60 ?k3a409c60 ?k4a409c60 ?k5a409c60 ?kKa409c60 ?kda409c60 ?kua409c60 ?kpa409c60 ?_; (case k1a409c60 => k_asm); (case k2a409c60 => k_asm); (case k3a409c60 => k_asm); (case k4a409c60 => k_asm); (case k5a409c60 => k_asm); (case kKa409c60 => first | exact rfl | assumption); (case kda409c60 => first | omega | ktr_room); (case kua409c60 => first | omega | ktr_units); (case kpa409c60 => first | trivial | assumption | omega | (constructor <;> omega) | k_extra "pre")); intro D9 t91 t92 t93 c9 h9 tk9 F9 N9 l9; (try simp only [AllLt, and_true] at l9); (try dsimp only); (try k_sweep); (try k_fold)))

end

section

-- A12
-- hebrew
abbrev hlp (y : Int) : Prop := (y * 7 + 1) % 19 < 7
theorem hleap_spec (news) (y : Int) (t1 : Tok) : Call1 w loose mean mg mb 1 315 news [.int y t1] True (RetB (decide (hlp y))) := by
  refine unwrap ?_
  simp (disch := k_dflt (
    k_with_none
    dsimp only [Call1]
    intro dp un gd cn cs aF ccd cl outer A₀ base h₀ L mp s Q E B F X N T hk hdp hun hpre hret
    refine wpAny_call ?_
    k_dflt cell_enter
    (rename Fr _ _ _ _ => FE)
    (refine' startP (l' := [(Str.ofString "year", .int y t1)]) ?cs ?nd FE ?e ?S ?_)
    (case cs => (first | (dsimp only; done) | rfl))
    (case nd => kernel_rfl!)
    (case e => kernel_rfl!)
    (case S => with_reducible (apply Sts.cons; apply Sts.nil; (repeat (first | exact Nones.nil | apply Nones.cons)); (all_goals (repeat (first | exact St.here | apply St.there)))))
    (clear FE; intro hnd FE tk0; (try k_fold))
    k_steps
    all_goals (refine' endB hret ?q7a ?q7f ?q7n ?q7s; (case q7f => k_asm); (case q7n => k_asm); (case q7s => (first | exact fun _ h => h | exact fun _ h => .tail _ h | exact fun _ h => .tail _ (.tail _ h) | exact fun _ h => .tail _ (.tail _ (.tail _ h)) | exact fun _ h => .tail _ (.tail _ (.tail _ (.tail _ h))) | exact fun _ h => .tail _ (.tail _ (.tail _ (.tail _ (.tail _ h)))) | (intro p9 hp9; repeat (first | exact hp9 | refine List.Mem.tail _ ?_)))); (case q7a => (rfl))))) only [↓wrap_true]
local macro_rules | `(tactic| walk_at "call ref") => `(tactic| (k_here; (with_reducible show wpAny _ _ (call (Value.ref 315) _) _ _ _); k_dflt (refine' use1 (hleap_spec _ _ _) ?k1a315c61 ?k2a315c61 ?k3a315c61 ?k4a315c61 ?k5a315c61 ?kKa315c61 ?kda315c61 ?kua315c61 ?kpa315c61 ?_; (case k1a315c61 => k_asm); (case k2a315c61 => k_asm); (case k3a315c61 => k_asm); (case k4a315c61 => k_asm); (case k5a315c61 => k_asm); (case kKa315c61 => first | exact rfl | assumption); (case kda315c61 => first | omega | ktr_room); (case kua315c61 => first | omega | ktr_units); (case kpa315c61 => first | trivial | assumption | omega | (constructor <;> omega) | k_extra "pre")); intro h9 tk9 F9 N9; (try dsimp only); (try k_sweep); (try k_fold)))
def hms (y : Int) : Int := if hlp y then 13 else 12
theorem hms_a {y : Int} (h : hlp y) : 13 = hms y := (if_pos h).symm
theorem hms_b {y : Int} (h : ¬ hlp y) : 12 = hms y := (if_neg h).symm
theorem hms_spec (news) (y : Int) (t1 : Tok) : Call1 w loose mean mg mb 2 322 news [.int y t1] True (RetI (hms y)) := by
  refine unwrap ?_
  simp (disch := k_dflt (
    k_with_none
    k_with "gl" => first | exact gl_ADAR _ | exact gl_leap_hebrew _ | exact gl_VEADAR _
    dsimp only [Call1]
    intro dp un gd cn cs aF ccd cl outer A₀ base h₀ L mp s Q E B F X N T hk hdp hun hpre hret
    refine wpAny_call ?_
    k_dflt cell_enter
    (rename Fr _ _ _ _ => FE)
    (refine' startP (l' := [(Str.ofString "year", .int y t1)]) ?cs ?nd FE ?e ?S ?_)
    (case cs => (first | (dsimp only; done) | rfl))
    (case nd => kernel_rfl!)
    (case e => kernel_rfl!)
    (case S => with_reducible (apply Sts.cons; apply Sts.nil; (repeat (first | exact Nones.nil | apply Nones.cons)); (all_goals (repeat (first | exact St.here | apply St.there)))))
    (clear FE; intro hnd FE tk0; (try k_fold))
    k_steps
    all_goals (refine' endI hret ?q7a ?q7f ?q7n ?q7s; (case q7f => k_asm); (case q7n => k_asm); (case q7s => (first | exact fun _ h => h | exact fun _ h => .tail _ h | exact fun _ h => .tail _ (.tail _ h) | exact fun _ h => .tail _ (.tail _ (.tail _ h)) | exact fun _ h => .tail _ (.tail _ (.tail _ (.tail _ h))) | exact fun _ h => .tail _ (.tail _ (.tail _ (.tail _ (.tail _ h)))) | (intro p9 hp9; repeat (first | exact hp9 | refine List.Mem.tail _ ?_)))); (case q7a => (with_reducible first | exact hms_a (by assumption) | exact hms_b (by assumption)))))) only [↓wrap_true]
local macro_rules | `(tactic| walk_at "call ref") => `(tactic| (k_here; (with_reducible show wpAny _ _ (call (Value.ref 322) _) _ _ _); k_dflt (refine' use1 (hms_spec _ _ _) ?k1a322c62 ?k2a322c62 ?k3a322c62 ?k4a322c62 ?k5a322c62 ?kKa322c62 ?kda322c62 ?kua322c62 ?kpa322c62 ?_; (case k1a322c62 => k_asm); (case k2a322c62 => k_asm); (case k3a322c62 => k_asm); (case k4a322c62 => k_asm); (case k5a322c62 => k_asm); (case kKa322c62 => first | exact rfl | assumption); (case kda322c62 => first | omega | ktr_room); (case kua322c62 => first | omega | ktr_units); (case kpa322c62 => first | trivial | assumption | omega | (constructor <;> omega) | k_extra "pre")); intro t9 h9 tk9 F9 N9; (try dsimp only); (try k_sweep); (try k_fold)))
abbrev hmo (y : Int) : Int := (235 * y - 234) / 19
abbrev hd0 (y : Int) : Int := hmo y * 29 + (12084 + 13753 * hmo y) / 25920
def hd1 (y : Int) : Int := if 3 * (hd0 y + 1) % 7 < 3 then hd0 y + 1 else hd0 y
theorem hd1_a {y : Int} (h : 3 * (hd0 y + 1) % 7 < 3) : hd0 y + 1 = hd1 y := (if_pos h).symm
theorem hd1_b {y : Int} (h : ¬ 3 * (hd0 y + 1) % 7 < 3) : hd0 y = hd1 y := (if_neg h).symm
theorem hd1_spec (news) (y : Int) (t1 : Tok) : Call1 w loose mean mg mb 1 329 news [.int y t1] True (RetI (hd1 y)) := by
  refine unwrap ?_
  simp (disch := k_dflt (
    k_with_none
    dsimp only [Call1]
    intro dp un gd cn cs aF ccd cl outer A₀ base h₀ L mp s Q E B F X N T hk hdp hun hpre hret
    refine wpAny_call ?_
    k_dflt cell_enter
    (rename Fr _ _ _ _ => FE)
    (refine' startP (l' := [(Str.ofString "year", .int y t1)]) ?cs ?nd FE ?e ?S ?_)
    (case cs => (first | (dsimp only; done) | rfl))
    (case nd => kernel_rfl!)
    (case e => kernel_rfl!)
    (case S => with_reducible (apply Sts.cons; apply Sts.nil; (repeat (first | exact Nones.nil | apply Nones.cons)); (all_goals (repeat (first | exact St.here | apply St.there)))))
    (clear FE; intro hnd FE tk0; (try k_fold))
    k_steps
    all_goals (refine' endI hret ?q7a ?q7f ?q7n ?q7s; (case q7f => k_asm); (case q7n => k_asm); (case q7s => (first | exact fun _ h => h | exact fun _ h => .tail _ h | exact fun _ h => .tail _ (.tail _ h) | exact fun _ h => .tail _ (.tail _ (.tail _ h)) | exact fun _ h => .tail _ (.tail _ (.tail _ (.tail _ h))) | exact fun _ h => .tail _ (.tail _ (.tail _ (.tail _ (.tail _ h)))) | (intro p9 hp9; repeat (first | exact hp9 | refine List.Mem.tail _ ?_)))); (case q7a => (with_reducible first | exact hd1_a (by assumption) | exact hd1_b (by assumption)))))) only [↓wrap_true]
local macro_rules | `(tactic| walk_at "call ref") => `(tactic| (k_here; (with_reducible show wpAny _ _ (call (Value.ref 329) _) _ _ _); k_dflt (refine' use1 (hd1_spec _ _ _) ?k1a329c63 ?k2a329c63 ?k3a329c63 ?k4a329c63 ?k5a329c63 ?kKa329c63 ?kda329c63 ?kua329c63 ?kpa329c63 ?_; (case k1a329c63 => k_asm); (case k2a329c63 => k_asm); (case k3a329c63 => k_asm); (case k4a329c63 => k_asm); (case k5a329c63 => k_asm); (case kKa329c63 => first | exact rfl | assumption); (case kda329c63 => first | omega | ktr_room); (case kua329c63 => first | omega | ktr_units); (case kpa329c63 => first | trivial | assumption | omega | (constructor <;> omega) | k_extra "pre")); intro t9 h9 tk9 F9 N9; (try dsimp only); (try k_sweep); (try k_fold)))
def hd2 (y : Int) : Int := if hd1 (y + 1) - hd1 y = 356 then 2 else if hd1 y - hd1 (y - 1) = 382 then 1 else 0
theorem hd2_a {y : Int} (h : hd1 (y + 1) - hd1 y = 356) : 2 = hd2 y := (if_pos h).symm
theorem hd2_b {y : Int} (h : hd1 (y + 1) - hd1 y ≠ 356) (h2 : hd1 y - hd1 (y - 1) = 382) : 1 = hd2 y := by rw [hd2, if_neg h, if_pos h2]
theorem hd2_c {y : Int} (h : hd1 (y + 1) - hd1 y ≠ 356) (h2 : hd1 y - hd1 (y - 1) ≠ 382) : 0 = hd2 y := by rw [hd2, if_neg h, if_neg h2]
theorem hd2_spec (news) (y : Int) (t1 : Tok) : Call1 w loose mean mg mb 2 336 news [.int y t1] True (RetI (hd2 y)) := by
  refine unwrap ?_
  simp (disch := k_dflt (
    k_with_none
    k_with "gl" => first | exact gl_delay_1 _
    dsimp only [Call1]
    intro dp un gd cn cs aF ccd cl outer A₀ base h₀ L mp s Q E B F X N T hk hdp hun hpre hret
    refine wpAny_call ?_
    k_dflt cell_enter
    (rename Fr _ _ _ _ => FE)
    (refine' startP (l' := [(Str.ofString "year", .int y t1)]) ?cs ?nd FE ?e ?S ?_)
    (case cs => (first | (dsimp only; done) | rfl))
    (case nd => kernel_rfl!)
    (case e => kernel_rfl!)
    (case S => with_reducible (apply Sts.cons; apply Sts.nil; (repeat (first | exact Nones.nil | apply Nones.cons)); (all_goals (repeat (first | exact St.here | apply St.there)))))
    (clear FE; intro hnd FE tk0; (try k_fold))
    k_steps
    all_goals (refine' endI hret ?q7a ?q7f ?q7n ?q7s; (case q7f => k_asm); (case q7n => k_asm); (case q7s => (first | exact fun _ h => h | exact fun _ h => .tail _ h | exact fun _ h => .tail _ (.tail _ h) | exact fun _ h => .tail _ (.tail _ (.tail _ h)) | exact fun _ h => .tail _ (.tail _ (.tail _ (.tail _ h))) | exact fun _ h => .tail _ (.tail _ (.tail _ (.tail _ (.tail _ h)))) | (intro p9 hp9; repeat (first | exact hp9 | refine List.Mem.tail _ ?_)))); (case q7a => (with_reducible first | exact hd2_a (by assumption) | exact hd2_b (by assumption) (by assumption) | exact hd2_c (by assumption) (by assumption)))))) only [↓wrap_true]
local macro_rules | `(tactic| walk_at "call ref") => `(tactic| (k_here; (with_reducible show wpAny _ _ (call (Value.ref 336) _) _ _ _); k_dflt (refine' use1 (hd2_spec _ _ _) ?k1a336c64 ?k2a336c64 ?k3a336c64 ?k4a336c64 ?k5a336c64 ?kKa336c64 ?kda336c64 ?kua336c64 ?kpa336c64 ?_; (case k1a336c64 => k_asm); (case k2a336c64 => k_asm); (case k3a336c64 => k_asm); (case k4a336c64 => k_asm); (case k5a336c64 => k_asm); (case kKa336c64 => first | exact rfl | assumption); (case kda336c64 => first | omega | ktr_room); (case kua336c64 => first | omega | ktr_units); (case kpa336c64 => first | trivial | assumption | omega | (constructor <;> omega) | k_extra "pre")); intro t9 h9 tk9 F9 N9; (try dsimp only); (try k_sweep); (try k_fold)))
def hT (y : Int) : Int := 347996 + hd1 y + hd2 y + 1 + 1
theorem hT_pos {y : Int} (h : -100 ≤ y) : 300000 < hT y := by
  have h1 : hd0 y ≤ hd1 y := by unfold hd1; split <;> omega
  have h2 : 0 ≤ hd2 y := by unfold hd2; repeat' split
                            all_goals omega
  have h3 : -40000 ≤ hd0 y := by unfold hd0 hmo; omega
  unfold hT; omega
theorem hT_spec (news) (y : Int) (t1 t2 t3 : Tok) : Call1 w loose mean mg mb 3 364 news [.int y t1, .int 7 t2, .int 1 t3] (-100 ≤ y) (RetI (hT y)) := by
  refine unwrap ?_
  simp (disch := k_dflt (
    k_with_none
    k_with "gl" => first | exact gl_year_months _ | exact gl_TISHRI _ | exact gl_midnight _ | exact gl_NISAN _ | exact gl_month_days _ | exact gl_EPOCH_hebrew _ | exact gl_delay_2 _ | exact gl_delay_1 _
    k_with "gb" => first | exact gb_range _
    dsimp only [Call1]
    intro dp un gd cn cs aF ccd cl outer A₀ base h₀ L mp s Q E B F X N T hk hdp hun hpre hret
    refine wpAny_call ?_
    k_dflt cell_enter
    (rename Fr _ _ _ _ => FE)
    (refine' startP (l' := [(Str.ofString "day", .int 1 t3), (Str.ofString "month", .int 7 t2), (Str.ofString "year", .int y t1)]) ?cs ?nd FE ?e ?S ?_)
    (case cs => (first | (dsimp only; done) | rfl))
    (case nd => kernel_rfl!)
    (case e => kernel_rfl!)
    (case S => with_reducible (apply Sts.cons; apply Sts.cons; apply Sts.cons; apply Sts.nil; (repeat (first | exact Nones.nil | apply Nones.cons)); (all_goals (repeat (first | exact St.here | apply St.there)))))
    (clear FE; intro hnd FE tk0; (try k_fold))
    k_with "pre" => ((have := hT_pos hpre); unfold hT at this; omega)
    k_steps
    all_goals (refine' endI hret ?q7a ?q7f ?q7n ?q7s; (case q7f => k_asm); (case q7n => k_asm); (case q7s => (first | exact fun _ h => h | exact fun _ h => .tail _ h | exact fun _ h => .tail _ (.tail _ h) | exact fun _ h => .tail _ (.tail _ (.tail _ h)) | exact fun _ h => .tail _ (.tail _ (.tail _ (.tail _ h))) | exact fun _ h => .tail _ (.tail _ (.tail _ (.tail _ (.tail _ h)))) | (intro p9 hp9; repeat (first | exact hp9 | refine List.Mem.tail _ ?_)))); (case q7a => (rfl))))) only [↓wrap_true]
local macro_rules | `(tactic| walk_at "call ref") => `(tactic| (k_here; (with_reducible show wpAny _ _ (call (Value.ref 364) _) _ _ _); k_dflt (refine' use1 (hT_spec _ _ _ _ _) ?k1a364c65 ?k2a364c65 ?k3a364c65 ?k4a364c65 ?k5a364c65 ?kKa364c65 ?kda364c65 ?kua364c65 ?kpa364c65 ?_; (case k1a364c65 => k_asm); (case k2a364c65 => k_asm); (case k3a364c65 => k_asm); (case k4a364c65 => k_asm); (case k5a364c65 => k_asm); (case kKa364c65 => first | exact rfl | assumption); (case kda364c65 => first | omega | ktr_room); (case kua364c65 => first | omega | ktr_units); (case kpa364c65 => first | trivial | assumption | omega | (constructor <;> omega) | k_extra "pre")); intro t9 h9 tk9 F9 N9; (try dsimp only); (try k_sweep); (try k_fold)))
def hyd (y : Int) : Int := hT (y + 1) - hT y
theorem hyd_spec (news) (y : Int) (t1 : Tok) : Call1 w loose mean mg mb 4 343 news [.int y t1] (-100 ≤ y) (RetI (hyd y)) := by
  refine unwrap ?_
  simp (disch := k_dflt (
    k_with_none
    k_with "gl" => first | exact gl_to_jd_hebrew _
    dsimp only [Call1]
    intro dp un gd cn cs aF ccd cl outer A₀ base h₀ L mp s Q E B F X N T hk hdp hun hpre hret
    refine wpAny_call ?_
    k_dflt cell_enter
    (rename Fr _ _ _ _ => FE)
    (refine' startP (l' := [(Str.ofString "year", .int y t1)]) ?cs ?nd FE ?e ?S ?_)
    (case cs => (first | (dsimp only; done) | rfl))
    (case nd => kernel_rfl!)
    (case e => kernel_rfl!)
    (case S => with_reducible (apply Sts.cons; apply Sts.nil; (repeat (first | exact Nones.nil | apply Nones.cons)); (all_goals (repeat (first | exact St.here | apply St.there)))))
    (clear FE; intro hnd FE tk0; (try k_fold))
    k_steps
    all_goals (refine' endI hret ?q7a ?q7f ?q7n ?q7s; (case q7f => k_asm); (case q7n => k_asm); (case q7s => (first | exact fun _ h => h | exact fun _ h => .tail _ h | exact fun _ h => .tail _ (.tail _ h) | exact fun _ h => .tail _ (.tail _ (.tail _ h)) | exact fun _ h => .tail _ (.tail _ (.tail _ (.tail _ h))) | exact fun _ h => .tail _ (.tail _ (.tail _ (.tail _ (.tail _ h)))) | (intro p9 hp9; repeat (first | exact hp9 | refine List.Mem.tail _ ?_)))); (case q7a => (rfl))))) only [↓wrap_true]
local macro_rules | `(tactic| walk_at "call ref") => `(tactic| (k_here; (with_reducible show wpAny _ _ (call (Value.ref 343) _) _ _ _); k_dflt (refine' use1 (hyd_spec _ _ _) ?k1a343c66 ?k2a343c66 ?k3a343c66 ?k4a343c66 ?k5a343c66 ?kKa343c66 ?kda343c66 ?kua343c66 ?kpa343c66 ?_; (case k1a343c66 => k_asm); (case k2a343c66 => k_asm); (case k3a343c66 => k_asm); (case k4a343c66 => k_asm); (case k5a343c66 => k_asm); (case kKa343c66 => first | exact rfl | assumption); (case kda343c66 => first | omega | ktr_room); (case kua343c66 => first | omega | ktr_units); (case kpa343c66 => first | trivial | assumption | omega | (constructor <;> omega) | k_extra "pre")); intro t9 h9 tk9 F9 N9; (try dsimp only); (try k_sweep); (try k_fold)))
def hml (y m : Int) : Int := if m = 2 ∨ m = 4 ∨ m = 6 ∨ m = 10 ∨ m = 13 then 29 else if m = 12 ∧ ¬ hlp y then 29 else if m = 8 ∧ hyd y % 10 ≠ 5 then 29 else if m = 9 ∧ hyd y % 10 = 3 then 29 else 30
theorem hml_a {y m : Int} (h : m = 2 ∨ m = 4 ∨ m = 6 ∨ m = 10 ∨ m = 13) : 29 = hml y m := (if_pos h).symm
theorem hml_b {y m : Int} (h : m = 12) (h2 : ¬ hlp y) : 29 = hml y m := by rw [hml, if_neg (by omega), if_pos ⟨h, h2⟩]
theorem hml_c {y m : Int} (h : m = 8) (h2 : hyd y % 10 ≠ 5) : 29 = hml y m := by rw [hml, if_neg (by omega), if_neg (by omega), if_pos ⟨h, h2⟩]
theorem hml_d {y m : Int} (h : m = 9) (h2 : hyd y % 10 = 3) : 29 = hml y m := by rw [hml, if_neg (by omega), if_neg (by omega), if_neg (by omega), if_pos ⟨h, h2⟩]
theorem hml_e {y m : Int} (h0 : ¬ m = 2 ∧ ¬ m = 4 ∧ ¬ m = 6 ∧ ¬ m = 10 ∧ ¬ m = 13) (h1 : ¬ (m = 12 ∧ ¬ hlp y)) (h2 : ¬ (m = 8 ∧ hyd y % 10 ≠ 5)) (h3 : ¬ (m = 9 ∧ hyd y % 10 = 3)) : 30 = hml y m := by rw [hml, if_neg (by omega), if_neg h1, if_neg h2, if_neg h3]
theorem hml_spec (news) (y m : Int) (t1 t2 : Tok) : Call1 w loose mean mg mb 5 350 news [.int y t1, .int m t2] (-100 ≤ y ∧ m ≤ 13) (RetI (hml y m)) := by
  refine unwrap ?_
  simp (disch := k_dflt (
    k_with_none
    k_with "gl" => first | exact gl_VEADAR _ | exact gl_IYYAR _ | exact gl_TAMMUZ _ | exact gl_ELUL _ | exact gl_TEVETH _ | exact gl_ADAR _ | exact gl_HESHVAN _ | exact gl_KISLEV _ | exact gl_leap_hebrew _ | exact gl_year_days _
    k_with "gb" => first | exact gb_ValueError _
    dsimp only [Call1]
    intro dp un gd cn cs aF ccd cl outer A₀ base h₀ L mp s Q E B F X N T hk hdp hun hpre hret
    refine wpAny_call ?_
    k_dflt cell_enter
    (rename Fr _ _ _ _ => FE)
    (refine' startP (l' := [(Str.ofString "month", .int m t2), (Str.ofString "year", .int y t1)]) ?cs ?nd FE ?e ?S ?_)
    (case cs => (first | (dsimp only; done) | rfl))
    (case nd => kernel_rfl!)
    (case e => kernel_rfl!)
    (case S => with_reducible (apply Sts.cons; apply Sts.cons; apply Sts.nil; (repeat (first | exact Nones.nil | apply Nones.cons)); (all_goals (repeat (first | exact St.here | apply St.there)))))
    (clear FE; intro hnd FE tk0; (try k_fold))
    k_with "raise" => omega
    k_steps
    all_goals (refine' endI hret ?q7a ?q7f ?q7n ?q7s; (case q7f => k_asm); (case q7n => k_asm); (case q7s => (first | exact fun _ h => h | exact fun _ h => .tail _ h | exact fun _ h => .tail _ (.tail _ h) | exact fun _ h => .tail _ (.tail _ (.tail _ h)) | exact fun _ h => .tail _ (.tail _ (.tail _ (.tail _ h))) | exact fun _ h => .tail _ (.tail _ (.tail _ (.tail _ (.tail _ h)))) | (intro p9 hp9; repeat (first | exact hp9 | refine List.Mem.tail _ ?_)))); (case q7a => (with_reducible first | exact hml_a (by assumption) | exact hml_b (by assumption) (by assumption) | exact hml_c (by assumption) (by assumption) | exact hml_d (by assumption) (by assumption) | (exfalso; omega) | exact hml_e (by assumption) (by omega) (by omega) (by omega)))))) only [↓wrap_true]
local macro_rules | `(tactic| walk_at "call ref") => `(tactic| (k_here; (with_reducible show wpAny _ _ (call (Value.ref 350) _) _ _ _); k_dflt (refine' use1 (hml_spec _ _ _ _ _) ?k1a350c67 ?k2a350c67 ?k3a350c67 ?k4a350c67 ?k5a350c67 ?kKa350c67 ?kda350c67 ?kua350c67 ?kpa350c67 ?_; (case k1a350c67 => k_asm); (case k2a350c67 => k_asm); (case k3a350c67 => k_asm); (case k4a350c67 => k_asm); (case k5a350c67 => k_asm); (case kKa350c67 => first | exact rfl | assumption); (case kda350c67 => first | omega | ktr_room); (case kua350c67 => first | omega | ktr_units); (case kpa350c67 => first | trivial | assumption | omega | (constructor <;> omega) | k_extra "pre")); intro t9 h9 tk9 F9 N9; (try dsimp only); (try k_sweep); (try k_fold)))
theorem hmd_spec (news) (y m : Int) (t1 t2 : Tok) : Call1 w loose mean mg mb 6 357 news [.int y t1, .int m t2] (-100 ≤ y ∧ m ≤ 13) (RetI (hml y m)) := by
  refine unwrap ?_
  simp (disch := k_dflt (
    k_with_none
    k_with "gl" => first | exact gl_month_length_hebrew _
    dsimp only [Call1]
    intro dp un gd cn cs aF ccd cl outer A₀ base h₀ L mp s Q E B F X N T hk hdp hun hpre hret
    refine wpAny_call ?_
    k_dflt cell_enter
    (rename Fr _ _ _ _ => FE)
    (refine' startP (l' := [(Str.ofString "month", .int m t2), (Str.ofString "year", .int y t1)]) ?cs ?nd FE ?e ?S ?_)
    (case cs => (first | (dsimp only; done) | rfl))
    (case nd => kernel_rfl!)
    (case e => kernel_rfl!)
    (case S => with_reducible (apply Sts.cons; apply Sts.cons; apply Sts.nil; (repeat (first | exact Nones.nil | apply Nones.cons)); (all_goals (repeat (first | exact St.here | apply St.there)))))
    (clear FE; intro hnd FE tk0; (try k_fold))
    k_steps
    all_goals (refine' endI hret ?q7a ?q7f ?q7n ?q7s; (case q7f => k_asm); (case q7n => k_asm); (case q7s => (first | exact fun _ h => h | exact fun _ h => .tail _ h | exact fun _ h => .tail _ (.tail _ h) | exact fun _ h => .tail _ (.tail _ (.tail _ h)) | exact fun _ h => .tail _ (.tail _ (.tail _ (.tail _ h))) | exact fun _ h => .tail _ (.tail _ (.tail _ (.tail _ (.tail _ h)))) | (intro p9 hp9; repeat (first | exact hp9 | refine List.Mem.tail _ ?_)))); (case q7a => (rfl))))) only [↓wrap_true]
local macro_rules | `(tactic| walk_at "call ref") => `(tactic| (k_here; (with_reducible show wpAny _ _ (call (Value.ref 357) _) _ _ _); k_dflt (refine' use1 (hmd_spec _ _ _ _ _) ?k1a357c68 ?k2a357c68 ?k3a357c68 ?k4a357c68 ?k5a357c68 ?kKa357c68 ?kda357c68 ?kua357c68 ?kpa357c68 ?_; (case k1a357c68 => k_asm); (case k2a357c68 => k_asm); (case k3a357c68 => k_asm); (case k4a357c68 => k_asm); (case k5a357c68 => k_asm); (case kKa357c68 => first | exact rfl | assumption); (case kda357c68 => first | omega | ktr_room); (case kua357c68 => first | omega | ktr_units); (case kpa357c68 => first | trivial | assumption | omega | (constructor <;> omega) | k_extra "pre")); intro t9 h9 tk9 F9 N9; (try dsimp only); (try k_sweep); (try k_fold)))
def hsum (y a : Int) : Nat → Int
  | 0 => 0
  | n + 1 => hsum y a n + hml y (a + n)
theorem hml_pos (y m : Int) : 29 ≤ hml y m ∧ hml y m ≤ 30 := by
  unfold hml
  repeat' split
  all_goals omega
theorem hsum_pos (y a : Int) : ∀ n, 0 ≤ hsum y a n
  | 0 => by simp [hsum]
  | n + 1 => by have := hsum_pos y a n; have := (hml_pos y (a + n)).1; rw [hsum]; omega
def hj (y m d : Int) : Int := if m < 7 then 347996 + hd1 y + hd2 y + d + 1 + hsum y 7 (hms y + 1 - 7).toNat + hsum y 1 (m - 1).toNat else 347996 + hd1 y + hd2 y + d + 1 + hsum y 7 (m - 7).toNat
theorem hms_in (y : Int) : 12 ≤ hms y ∧ hms y ≤ 13 := by unfold hms; split <;> omega
theorem hj_a {y m d : Int} (h : m < 7) : 347996 + hd1 y + hd2 y + d + 1 + hsum y 7 (hms y + 1 - 7).toNat + hsum y 1 (m - 1).toNat = hj y m d := (if_pos h).symm
theorem hj_b {y m d : Int} (h : ¬ m < 7) : 347996 + hd1 y + hd2 y + d + 1 + hsum y 7 (m - 7).toNat = hj y m d := (if_neg h).symm
theorem hj_pos {y m d : Int} (h : -100 ≤ y) (hd : 0 ≤ d) : 0 < hj y m d := by
  have h1 := hT_pos h
  unfold hT at h1
  have h2 := hsum_pos y 7 (hms y + 1 - 7).toNat
  have h3 := hsum_pos y 1 (m - 1).toNat
  have h4 := hsum_pos y 7 (m - 7).toNat
  unfold hj
  split <;> omega

-- A13
abbrev RInv (b y a : Int) (i : Nat) (c : Int) : Prop := c = b + hsum y a i
theorem rinv_zero {b y a : Int} : b = b + hsum y a 0 := by simp [hsum]
theorem rinv_start {b y a c : Int} (h : c = b) : c = b + hsum y a 0 := by simp [hsum, h]
theorem hj_ea {y m d c : Int} (h : m < 7) (hc : c = 347996 + hd1 y + hd2 y + d + 1 + hsum y 7 (hms y + 1 - 7).toNat + hsum y 1 (m - 1).toNat) : c = hj y m d := hc.trans (hj_a h)
theorem hj_eb {y m d c : Int} (h : ¬ m < 7) (hc : c = 347996 + hd1 y + hd2 y + d + 1 + hsum y 7 (m - 7).toNat) : c = hj y m d := hc.trans (hj_b h)
theorem rinv_turn {b y a n c : Int} {i : Nat} (h : c = b + hsum y a i) (hn : n = a + (i : Int)) : c + hml y n = b + hsum y a (i + 1) := by rw [hsum, h, hn]; omega
theorem hj_spec (news) (y m d : Int) (t1 t2 t3 : Tok) : Call1 w loose mean mg mb 7 364 news [.int y t1, .int m t2, .int d t3] (-100 ≤ y ∧ 1 ≤ m ∧ m ≤ 13 ∧ 0 ≤ d) (RetI (hj y m d)) := by
  refine unwrap ?_
  simp (disch := k_dflt (
    k_with_none
    k_with "gl" => first | exact gl_year_months _ | exact gl_TISHRI _ | exact gl_midnight _ | exact gl_NISAN _ | exact gl_month_days _ | exact gl_EPOCH_hebrew _ | exact gl_delay_2 _ | exact gl_delay_1 _
    k_with "gb" => first | exact gb_range _
    dsimp only [Call1]
    intro dp un gd cn cs aF ccd cl outer A₀ base h₀ L mp s Q E B F X N T hk hdp hun hpre hret
    refine wpAny_call ?_
    k_dflt cell_enter
    (rename Fr _ _ _ _ => FE)
    (refine' startP (l' := [(Str.ofString "day", .int d t3), (Str.ofString "month", .int m t2), (Str.ofString "year", .int y t1)]) ?cs ?nd FE ?e ?S ?_)
    (case cs => (first | (dsimp only; done) | rfl))
    (case nd => kernel_rfl!)
    (case e => kernel_rfl!)
    (case S => with_reducible (apply Sts.cons; apply Sts.cons; apply Sts.cons; apply Sts.nil; (repeat (first | exact Nones.nil | apply Nones.cons)); (all_goals (repeat (first | exact St.here | apply St.there)))))
    (clear FE; intro hnd FE tk0; (try k_fold))
    have hm := hms_in y
    obtain ⟨p1, p2, p3, p4⟩ := hpre
    have hp := hj_pos (y := y) (m := m) (d := d) p1 p4
    k_with "rb" => omega
    k_with "pyIter ref" => ((rename Fr _ _ _ _ => zF); (rename News _ _ _ _ => zN); (rename IsRange _ _ _ _ _ _ _ _ => zR); k_dflt (refine' iterRange "jd" (fun i c => c = 347996 + hd1 y + hd2 y + d + 1 + hsum y 7 i) ?zi1 ?zi2 ?zi3 ?zim ?zii ?zia ?zis ?ziu ?zix ?zih ?zip ?_ ?_); (case zi1 => assumption); (case zi2 => exact zF); (case zi3 => exact zN); (case zim => exact zR); (case zii => k_dflt k_extra "rb"); (case zia => with_reducible (repeat (first | exact At.here | apply At.there))); (case zis => (intros; with_reducible (repeat (first | exact St.here | apply St.there)))); (case ziu => with_reducible (repeat (first | exact At.here | apply At.there))); (case zix => (intros; with_reducible (repeat (first | exact St.here | apply St.there)))); (case zih => with_unfolding_all exact rfl); (case zip => k_dflt (exact rinv_zero)); (all_goals (clear zF zN; intros; (try dsimp only at *); (try k_fold))))
    k_with "pyIter ref" => ((rename Fr _ _ _ _ => zF); (rename News _ _ _ _ => zN); (rename IsRange _ _ _ _ _ _ _ _ => zR); k_dflt (refine' iterRange "jd" (fun i c => c = 347996 + hd1 y + hd2 y + d + 1 + hsum y 7 (hms y + 1 - 7).toNat + hsum y 1 i) ?zi1 ?zi2 ?zi3 ?zim ?zii ?zia ?zis ?ziu ?zix ?zih ?zip ?_ ?_); (case zi1 => assumption); (case zi2 => exact zF); (case zi3 => exact zN); (case zim => exact zR); (case zii => k_dflt k_extra "rb"); (case zia => with_reducible (repeat (first | exact At.here | apply At.there))); (case zis => (intros; with_reducible (repeat (first | exact St.here | apply St.there)))); (case ziu => with_reducible (repeat (first | exact At.here | apply At.there))); (case zix => (intros; with_reducible (repeat (first | exact St.here | apply St.there)))); (case zih => with_unfolding_all exact rfl); (case zip => k_dflt (exact rinv_start (by assumption))); (all_goals (clear zF zN; intros; (try dsimp only at *); (try k_fold))))
    k_with "turn" => exact rinv_turn (by assumption) (by assumption)
    k_with "pre" => first | omega | exact (hj_ea (by assumption) (by assumption)).symm ▸ hp | exact (hj_eb (by assumption) (by assumption)).symm ▸ hp
    k_steps
    all_goals (refine' endI hret ?q7a ?q7f ?q7n ?q7s; (case q7f => k_asm); (case q7n => k_asm); (case q7s => (first | exact fun _ h => h | exact fun _ h => .tail _ h | exact fun _ h => .tail _ (.tail _ h) | exact fun _ h => .tail _ (.tail _ (.tail _ h)) | exact fun _ h => .tail _ (.tail _ (.tail _ (.tail _ h))) | exact fun _ h => .tail _ (.tail _ (.tail _ (.tail _ (.tail _ h)))) | (intro p9 hp9; repeat (first | exact hp9 | refine List.Mem.tail _ ?_)))); (case q7a => (first | exact hj_ea (by assumption) (by assumption) | exact hj_eb (by assumption) (by assumption)))))) only [↓wrap_true]
-- P2
-- hebrew: the length of a year
abbrev hrem (y : Int) : Int := (12084 + 13753 * hmo y) % 25920
theorem mod19 (y : Int) : ∃ q, y = 19 * q ∨ y = 19 * q + 1 ∨ y = 19 * q + 2 ∨ y = 19 * q + 3 ∨ y = 19 * q + 4 ∨ y = 19 * q + 5 ∨ y = 19 * q + 6 ∨ y = 19 * q + 7 ∨ y = 19 * q + 8 ∨ y = 19 * q + 9 ∨ y = 19 * q + 10 ∨ y = 19 * q + 11 ∨ y = 19 * q + 12 ∨ y = 19 * q + 13 ∨ y = 19 * q + 14 ∨ y = 19 * q + 15 ∨ y = 19 * q + 16 ∨ y = 19 * q + 17 ∨ y = 19 * q + 18 := ⟨y / 19, by omega⟩
theorem hmo_leap {y : Int} (h : hlp y) : hmo (y + 1) = hmo y + 13 := by
  unfold hmo; unfold hlp at h
  obtain ⟨q, h1⟩ := mod19 y
  repeat' (rcases h1 with h1 | h1)
  all_goals (omega)
theorem hmo_com {y : Int} (h : ¬ hlp y) : hmo (y + 1) = hmo y + 12 := by
  unfold hmo; unfold hlp at h
  obtain ⟨q, h1⟩ := mod19 y
  repeat' (rcases h1 with h1 | h1)
  all_goals (omega)
theorem hlp_next {y : Int} (h : hlp y) : ¬ hlp (y + 1) := by
  unfold hlp at *
  obtain ⟨q, h1⟩ := mod19 y
  repeat' (rcases h1 with h1 | h1)
  all_goals (omega)
theorem hstep_num (m m' k r d d' r' : Int) (hd : d = m * 29 + (12084 + 13753 * m) / 25920) (hr : r = (12084 + 13753 * m) % 25920) (hd' : d' = m' * 29 + (12084 + 13753 * m') / 25920) (hr' : r' = (12084 + 13753 * m') % 25920)
    (hk : m' = m + k) : (k = 12 → (r < 16404 ∧ d' = d + 354 ∧ r' = r + 9516) ∨ (16404 ≤ r ∧ d' = d + 355 ∧ r' = r - 16404)) ∧ (k = 13 → (r < 2651 ∧ d' = d + 383 ∧ r' = r + 23269) ∨ (2651 ≤ r ∧ d' = d + 384 ∧ r' = r - 2651)) := by
  subst hk
  constructor
  · intro e; subst e; omega
  · intro e; subst e; omega
theorem hstep_com {y : Int} (h : ¬ hlp y) : (hrem y < 16404 ∧ hd0 (y + 1) = hd0 y + 354 ∧ hrem (y + 1) = hrem y + 9516) ∨ (16404 ≤ hrem y ∧ hd0 (y + 1) = hd0 y + 355 ∧ hrem (y + 1) = hrem y - 16404) :=
  (hstep_num (hmo y) (hmo (y + 1)) 12 _ _ _ _ rfl rfl rfl rfl (hmo_com h)).1 rfl
theorem hstep_leap {y : Int} (h : hlp y) : (hrem y < 2651 ∧ hd0 (y + 1) = hd0 y + 383 ∧ hrem (y + 1) = hrem y + 23269) ∨ (2651 ≤ hrem y ∧ hd0 (y + 1) = hd0 y + 384 ∧ hrem (y + 1) = hrem y - 2651) :=
  (hstep_num (hmo y) (hmo (y + 1)) 13 _ _ _ _ rfl rfl rfl rfl (hmo_leap h)).2 rfl
def hc (d : Int) : Int := if 3 * (d + 1) % 7 < 3 then 1 else 0
theorem hd1_c (y : Int) : hd1 y = hd0 y + hc (hd0 y) := by unfold hd1 hc; split <;> omega
theorem mod7 (d : Int) : ∃ q, d = 7 * q - 1 ∨ d = 7 * q ∨ d = 7 * q + 1 ∨ d = 7 * q + 2 ∨ d = 7 * q + 3 ∨ d = 7 * q + 4 ∨ d = 7 * q + 5 := ⟨(d + 1) / 7, by omega⟩
theorem hc_cases (d : Int) : (hc d = 1 ∧ ((d + 1) % 7 = 0 ∨ (d + 1) % 7 = 3 ∨ (d + 1) % 7 = 5)) ∨ (hc d = 0 ∧ ((d + 1) % 7 = 1 ∨ (d + 1) % 7 = 2 ∨ (d + 1) % 7 = 4 ∨ (d + 1) % 7 = 6)) := by
  obtain ⟨q, h1⟩ := mod7 d
  unfold hc
  repeat' (rcases h1 with h1 | h1)
  all_goals (split <;> omega)
/-- the state of a year: leap, the molad's day, its parts; one step to the next -/
def HSt (l : Prop) (d r d' r' : Int) : Prop := (¬ l ∧ ((r < 16404 ∧ d' = d + 354 ∧ r' = r + 9516) ∨ (16404 ≤ r ∧ d' = d + 355 ∧ r' = r - 16404))) ∨ (l ∧ ((r < 2651 ∧ d' = d + 383 ∧ r' = r + 23269) ∨ (2651 ≤ r ∧ d' = d + 384 ∧ r' = r - 2651)))
theorem hst (y : Int) : HSt (hlp y) (hd0 y) (hrem y) (hd0 (y + 1)) (hrem (y + 1)) := by
  by_cases h : hlp y
  · exact .inr ⟨h, hstep_leap h⟩
  · exact .inl ⟨h, hstep_com h⟩
theorem h356 {l : Prop} {d r d' r' : Int} (h : HSt l d r d' r') : d' + hc d' - (d + hc d) = 356 ↔ (¬ l ∧ (d + 1) % 7 = 2 ∧ 16404 ≤ r) := by
  have c := hc_cases d
  have c' := hc_cases d'
  obtain ⟨q, hq⟩ := mod7 d
  rcases h with ⟨hl, h⟩ | ⟨hl, h⟩ <;> simp only [hl, not_true, not_false_iff, true_and, false_and] <;> (repeat' (rcases hq with hq | hq)) <;> (rcases h with ⟨h1, h2, h3⟩ | ⟨h1, h2, h3⟩ <;> subst h2 <;> refine ⟨fun hh => ?_, fun hh => ?_⟩ <;> first | omega | exact hh.elim)
theorem h382 {l : Prop} {d r d' r' : Int} (h : HSt l d r d' r') : d' + hc d' - (d + hc d) = 382 ↔ (l ∧ (d + 1) % 7 = 3 ∧ r < 2651) := by
  have c := hc_cases d
  have c' := hc_cases d'
  obtain ⟨q, hq⟩ := mod7 d
  rcases h with ⟨hl, h⟩ | ⟨hl, h⟩ <;> simp only [hl, not_true, not_false_iff, true_and, false_and] <;> (repeat' (rcases hq with hq | hq)) <;> (rcases h with ⟨h1, h2, h3⟩ | ⟨h1, h2, h3⟩ <;> subst h2 <;> refine ⟨fun hh => ?_, fun hh => ?_⟩ <;> first | omega | exact hh.elim)
/-- the whole delay of a year of state (l, d, r) behind a year of state (lp, dp, rp) -/
theorem hd2_cases (y : Int) : (hd2 y = 2 ∧ ¬ hlp y ∧ (hd0 y + 1) % 7 = 2 ∧ 16404 ≤ hrem y) ∨ (hd2 y = 1 ∧ hlp (y - 1) ∧ (hd0 y + 1) % 7 = 1 ∧ 23269 ≤ hrem y ∧ ¬ (¬ hlp y ∧ (hd0 y + 1) % 7 = 2 ∧ 16404 ≤ hrem y)) ∨
    (hd2 y = 0 ∧ ¬ (¬ hlp y ∧ (hd0 y + 1) % 7 = 2 ∧ 16404 ≤ hrem y) ∧ ¬ (hlp (y - 1) ∧ (hd0 y + 1) % 7 = 1 ∧ 23269 ≤ hrem y)) := by
  have a := h356 (hst y)
  have b := h382 (hst (y - 1))
  have s := hst (y - 1)
  have e : y - 1 + 1 = y := by omega
  rw [e] at b s
  have hr0 : 0 ≤ hrem (y - 1) ∧ hrem (y - 1) < 25920 := by unfold hrem; omega
  have b2 : (hlp (y - 1) ∧ (hd0 (y - 1) + 1) % 7 = 3 ∧ hrem (y - 1) < 2651) ↔ (hlp (y - 1) ∧ (hd0 y + 1) % 7 = 1 ∧ 23269 ≤ hrem y) := by
    have hr1 : 0 ≤ hrem y ∧ hrem y < 25920 := by unfold hrem; omega
    revert s hr0 hr1
    generalize hd0 (y - 1) = d
    generalize hd0 y = d'
    generalize hrem (y - 1) = r
    generalize hrem y = r'
    intro s hr0 hr1
    obtain ⟨q, hq⟩ := mod7 d
    rcases s with ⟨hl, _⟩ | ⟨hl, s⟩
    · simp only [hl, false_and]
    · simp only [hl, true_and]
      repeat' (rcases hq with hq | hq)
      all_goals (rcases s with ⟨h1, h2, h3⟩ | ⟨h1, h2, h3⟩ <;> subst h2 <;> omega)
  rw [b2] at b
  rw [← hd1_c, ← hd1_c] at a b
  unfold hd2
  by_cases h1 : hd1 (y + 1) - hd1 y = 356
  · rw [if_pos h1]; exact .inl ⟨rfl, a.mp h1⟩
  · rw [if_neg h1]
    have na := fun h => h1 (a.mpr h)
    by_cases h2 : hd1 y - hd1 (y - 1) = 382
    · rw [if_pos h2]
      obtain ⟨p, q, r⟩ := b.mp h2
      exact .inr (.inl ⟨rfl, p, q, r, na⟩)
    · rw [if_neg h2]
      exact .inr (.inr ⟨rfl, na, fun h => h2 (b.mpr h)⟩)
theorem hyd_delta (y : Int) : hyd y = hd0 (y + 1) + hc (hd0 (y + 1)) + hd2 (y + 1) - (hd0 y + hc (hd0 y) + hd2 y) := by unfold hyd hT; rw [hd1_c, hd1_c]; omega
theorem hyd_in (y : Int) : (¬ hlp y ∧ (hyd y = 353 ∨ hyd y = 354 ∨ hyd y = 355)) ∨ (hlp y ∧ (hyd y = 383 ∨ hyd y = 384 ∨ hyd y = 385)) := by
  have s := hst y
  have c := hc_cases (hd0 y)
  have c' := hc_cases (hd0 (y + 1))
  have t := hd2_cases y
  have t' := hd2_cases (y + 1)
  have e : y + 1 - 1 = y := by omega
  rw [e] at t'
  have n1 : hlp y → ¬ hlp (y + 1) := hlp_next
  have n2 : hlp (y - 1) → ¬ hlp y := fun h => by have := hlp_next h; rwa [show y - 1 + 1 = y from by omega] at this
  have hr : 0 ≤ hrem y ∧ hrem y < 25920 := by unfold hrem; omega
  rw [hyd_delta]
  revert s c c' t t' n1 n2 hr
  generalize hd0 y = d
  generalize hd0 (y + 1) = d'
  generalize hc d = k
  generalize hc d' = k'
  generalize hrem y = r
  generalize hrem (y + 1) = r'
  generalize hd2 y = g
  generalize hd2 (y + 1) = g'
  generalize hlp y = l
  generalize hlp (y + 1) = l'
  generalize hlp (y - 1) = lp
  intro s c c' t t' n1 n2 hr
  rcases s with ⟨hl, s⟩ | ⟨hl, s⟩
  · refine .inl ⟨hl, ?_⟩
    obtain ⟨q, hq⟩ := mod7 d
    by_cases hl' : l' <;> by_cases hlq : lp <;> simp only [hl, hl', hlq, not_false_iff, true_and, false_and, and_false, not_true, false_or, or_false] at t t'
    all_goals (repeat' (rcases hq with hq | hq))
    all_goals (rcases s with ⟨h1, h2, h3⟩ | ⟨h1, h2, h3⟩ <;> subst h2 <;> omega)
  · refine .inr ⟨hl, ?_⟩
    have nlp : ¬ lp := fun h => n2 h hl
    have nl' := n1 hl
    simp only [hl, nlp, nl', not_false_iff, true_and, false_and, and_false, not_true, false_or] at t t'
    obtain ⟨q, hq⟩ := mod7 d
    repeat' (rcases hq with hq | hq)
    all_goals (rcases s with ⟨h1, h2, h3⟩ | ⟨h1, h2, h3⟩ <;> subst h2 <;> omega)

-- P3
-- hebrew: the day counts of the months, and the one date of a day
theorem hsum_mono (y a : Int) {i j : Nat} (h : i ≤ j) : hsum y a i ≤ hsum y a j := by
  induction h with
  | refl => exact Int.le_refl _
  | @step k _ ih =>
    have := (hml_pos y (a + (k : Int))).1
    rw [hsum]
    omega
def hb (y : Int) : Int := 347996 + hd1 y + hd2 y + 1
theorem hT_b (y : Int) : hT y = hb y + 1 := by unfold hT hb; omega
theorem hj_hi {y m d : Int} (h : 7 ≤ m) : hj y m d = hb y + d + hsum y 7 (m - 7).toNat := by
  rw [hj, if_neg (by omega)]; unfold hb; omega
theorem hj_lo {y m d : Int} (h : m < 7) : hj y m d = hb y + d + hsum y 7 (hms y - 6).toNat + hsum y 1 (m - 1).toNat := by
  rw [hj, if_pos h, show hms y + 1 - 7 = hms y - 6 from by omega]; unfold hb; omega
theorem hsum_at {y a m : Int} (h : a ≤ m) : hsum y a (m + 1 - a).toNat = hsum y a (m - a).toNat + hml y m := by
  have e : (m + 1 - a).toNat = (m - a).toNat + 1 := by omega
  rw [e, hsum, show a + ((m - a).toNat : Int) = m from by omega]
theorem hml_fix (y : Int) : hml y 1 = 30 ∧ hml y 2 = 29 ∧ hml y 3 = 30 ∧ hml y 4 = 29 ∧ hml y 5 = 30 ∧ hml y 6 = 29 ∧ hml y 7 = 30 ∧ hml y 10 = 29 ∧ hml y 11 = 30 ∧ hml y 13 = 29 := by
  refine ⟨?_, ?_, ?_, ?_, ?_, ?_, ?_, ?_, ?_, ?_⟩ <;> simp [hml]
theorem hml_8 (y : Int) : hml y 8 = if hyd y % 10 ≠ 5 then 29 else 30 := by simp [hml]
theorem hml_9 (y : Int) : hml y 9 = if hyd y % 10 = 3 then 29 else 30 := by simp [hml]
theorem hml_12 (y : Int) : hml y 12 = if ¬ hlp y then 29 else 30 := by simp [hml]
theorem hsum_16 (y : Int) : hsum y 1 6 = 177 := by
  obtain ⟨h1, h2, h3, h4, h5, h6, _⟩ := hml_fix y
  simp only [hsum]
  have e1 : hml y (1 + ((0 : Nat) : Int)) = 30 := h1
  have e2 : hml y (1 + ((1 : Nat) : Int)) = 29 := h2
  have e3 : hml y (1 + ((2 : Nat) : Int)) = 30 := h3
  have e4 : hml y (1 + ((3 : Nat) : Int)) = 29 := h4
  have e5 : hml y (1 + ((4 : Nat) : Int)) = 30 := h5
  have e6 : hml y (1 + ((5 : Nat) : Int)) = 29 := h6
  omega
theorem hsum_76 (y : Int) : hsum y 7 6 = 89 + hml y 8 + hml y 9 + hml y 12 := by
  obtain ⟨_, _, _, _, _, _, h7, h10, h11, _⟩ := hml_fix y
  simp only [hsum]
  have e1 : hml y (7 + ((0 : Nat) : Int)) = 30 := h7
  have e2 : hml y (7 + ((1 : Nat) : Int)) = hml y 8 := rfl
  have e3 : hml y (7 + ((2 : Nat) : Int)) = hml y 9 := rfl
  have e4 : hml y (7 + ((3 : Nat) : Int)) = 29 := h10
  have e5 : hml y (7 + ((4 : Nat) : Int)) = 30 := h11
  have e6 : hml y (7 + ((5 : Nat) : Int)) = hml y 12 := rfl
  omega
theorem hsum_year (y : Int) : hsum y 7 (hms y - 6).toNat + hsum y 1 6 = hyd y := by
  have h8 := hml_8 y
  have h9 := hml_9 y
  have h12 := hml_12 y
  have h13 : hml y 13 = 29 := (hml_fix y).2.2.2.2.2.2.2.2.2
  have h16 := hsum_16 y
  have h76 := hsum_76 y
  rcases hyd_in y with ⟨hl, h⟩ | ⟨hl, h⟩
  · have e : hms y = 12 := if_neg hl
    rw [e, show ((12 : Int) - 6).toNat = 6 from rfl]
    rw [if_pos hl] at h12
    rcases h with h | h | h <;> rw [h] at h8 h9 ⊢ <;> simp at h8 h9 <;> omega
  · have e : hms y = 13 := if_pos hl
    rw [e, show ((13 : Int) - 6).toNat = 6 + 1 from rfl, hsum]
    have e6 : hml y (7 + ((6 : Nat) : Int)) = 29 := h13
    rw [if_neg (not_not_intro hl)] at h12
    rcases h with h | h | h <;> rw [h] at h8 h9 ⊢ <;> simp at h8 h9 <;> omega
theorem hT_next (y : Int) : hT (y + 1) = hT y + hyd y := by unfold hyd; omega
theorem hyd_pos (y : Int) : 353 ≤ hyd y := by rcases hyd_in y with ⟨_, h⟩ | ⟨_, h⟩ <;> omega
theorem hj_last_hi {y m : Int} (h : 7 ≤ m) : hj y m (hml y m) + 1 = hj y (m + 1) 1 := by
  rw [hj_hi h, hj_hi (by omega), hsum_at h]; omega
theorem hj_last_lo {y m : Int} (h1 : 1 ≤ m) (h : m < 6) : hj y m (hml y m) + 1 = hj y (m + 1) 1 := by
  rw [hj_lo (by omega), hj_lo (by omega), hsum_at h1]; omega
theorem hj_last_hms (y : Int) : hj y (hms y) (hml y (hms y)) + 1 = hj y 1 1 := by
  have h := hms_in y
  rw [hj_hi (by omega), hj_lo (by omega), show hms y - 6 = hms y + 1 - 7 from by omega, hsum_at (by omega)]
  simp [hsum]; omega
theorem hj_last_6 (y : Int) : hj y 6 (hml y 6) + 1 = hT (y + 1) := by
  have h := hsum_year y
  have e : hsum y 1 6 = hsum y 1 5 + hml y 6 := by rw [hsum]; rfl
  rw [hj_lo (by omega), hT_next, hT_b, show ((6 : Int) - 1).toNat = 5 from rfl]
  omega
theorem hj_7 (y : Int) : hj y 7 1 = hT y := by rw [hj_hi (by omega), hT_b]; simp [hsum]
structure HOK (n Y M D : Int) : Prop where
  y1 : hT Y ≤ n
  y2 : n < hT (Y + 1)
  m1 : 1 ≤ M
  m2 : M ≤ hms Y
  d1 : hj Y M 1 ≤ n
  d2 : n ≤ hj Y M (hml Y M)
  d : D = n - hj Y M 1 + 1
theorem hT_mono (y : Int) : ∀ k : Nat, hT y + k ≤ hT (y + k)
  | 0 => by simp
  | k + 1 => by
    have h := hT_mono y k
    have h2 := hT_next (y + k)
    have h3 := hyd_pos (y + k)
    rw [show y + ((k + 1 : Nat) : Int) = y + k + 1 from by omega, h2]
    omega
theorem hT_lt {y z : Int} (h : hT y < hT (z + 1)) : y ≤ z := by
  refine Int.not_lt.mp fun hl => ?_
  have := hT_mono (z + 1) (y - (z + 1)).toNat
  rw [show z + 1 + ((y - (z + 1)).toNat : Int) = y from by omega] at this
  omega
theorem hj_order {y m m' : Int} (h : (7 ≤ m ∧ m < m' ∧ m' ≤ 13) ∨ (1 ≤ m ∧ m < m' ∧ m' < 7) ∨ (7 ≤ m ∧ m ≤ hms y ∧ 1 ≤ m' ∧ m' < 7)) : hj y m (hml y m) < hj y m' 1 := by
  rcases h with ⟨h1, h2, h3⟩ | ⟨h1, h2, h3⟩ | ⟨h1, h2, h3, h4⟩
  · have e := hj_last_hi (y := y) h1
    have := hsum_mono y 7 (show (m + 1 - 7).toNat ≤ (m' - 7).toNat from by omega)
    rw [hj_hi (by omega)] at e ⊢
    rw [hj_hi (by omega)] at e ⊢
    omega
  · have e := hj_last_lo (y := y) h1 (by omega)
    have := hsum_mono y 1 (show (m + 1 - 1).toNat ≤ (m' - 1).toNat from by omega)
    rw [hj_lo (by omega)] at e ⊢
    rw [hj_lo (by omega)] at e ⊢
    omega
  · have e := hsum_at (y := y) h1
    have a := hsum_mono y 7 (show (m + 1 - 7).toNat ≤ (hms y - 6).toNat from by omega)
    have b := hsum_pos y 1 (m' - 1).toNat
    rw [hj_hi h1, hj_lo h4]
    omega
theorem HOK.one {n Y M D Y' M' D' : Int} (h : HOK n Y M D) (h' : HOK n Y' M' D') : Y = Y' ∧ M = M' ∧ D = D' := by
  have e1 : Y ≤ Y' := hT_lt (Int.lt_of_le_of_lt h.y1 h'.y2)
  have e2 : Y' ≤ Y := hT_lt (Int.lt_of_le_of_lt h'.y1 h.y2)
  have e : Y = Y' := by omega
  subst e
  have hm := hms_in Y
  have a1 := h.m1
  have a2 := h.m2
  have b1 := h'.m1
  have b2 := h'.m2
  have em : M = M' := by
    have x1 := h.d1
    have x2 := h.d2
    have y1 := h'.d1
    have y2 := h'.d2
    by_cases hlt : M = M'
    · exact hlt
    · have c : ((7 ≤ M ∧ M < M' ∧ M' ≤ 13) ∨ (1 ≤ M ∧ M < M' ∧ M' < 7) ∨ (7 ≤ M ∧ M ≤ hms Y ∧ 1 ≤ M' ∧ M' < 7)) ∨ ((7 ≤ M' ∧ M' < M ∧ M ≤ 13) ∨ (1 ≤ M' ∧ M' < M ∧ M < 7) ∨ (7 ≤ M' ∧ M' ≤ hms Y ∧ 1 ≤ M ∧ M < 7)) := by omega
      rcases c with c | c
      · have := hj_order c; omega
      · have := hj_order c; omega
  subst em
  exact ⟨rfl, rfl, h.d.trans h'.d.symm⟩
noncomputable def hY (n : Int) : Int := open Classical in if h : ∃ Y M D, HOK n Y M D then h.choose else 0
noncomputable def hM (n : Int) : Int := open Classical in if h : ∃ M Y D, HOK n Y M D then h.choose else 0
noncomputable def hD (n : Int) : Int := open Classical in if h : ∃ D Y M, HOK n Y M D then h.choose else 0
theorem HOK.eq {n Y M D : Int} (h : HOK n Y M D) : Y = hY n ∧ M = hM n ∧ D = hD n := by
  refine ⟨?_, ?_, ?_⟩
  · have hx : ∃ Y M D, HOK n Y M D := ⟨_, _, _, h⟩
    rw [hY, dif_pos hx]
    obtain ⟨_, _, p⟩ := hx.choose_spec
    exact (h.one p).1
  · have hx : ∃ M Y D, HOK n Y M D := ⟨_, _, _, h⟩
    rw [hM, dif_pos hx]
    obtain ⟨_, _, p⟩ := hx.choose_spec
    exact (h.one p).2.1
  · have hx : ∃ D Y M, HOK n Y M D := ⟨_, _, _, h⟩
    rw [hD, dif_pos hx]
    obtain ⟨_, _, p⟩ := hx.choose_spec
    exact (h.one p).2.2

-- A14
-- hebrew: from_jd
theorem hT_gt {i : Int} (h : -100 ≤ i) : i < hT i := by
  have h1 : hd0 i ≤ hd1 i := by unfold hd1; split <;> omega
  have h2 : 0 ≤ hd2 i := by unfold hd2; repeat' split
                            all_goals omega
  have h3 : i - 40000 ≤ hd0 i := by unfold hd0 hmo; omega
  unfold hT; omega
abbrev HI1 (n i y : Int) : Prop := y = i - 1 ∧ hT y ≤ n ∧ -1 ≤ y
theorem hT_le (y : Int) : hT y ≤ 348001 + hd0 y := by
  have h1 : hd1 y ≤ hd0 y + 1 := by unfold hd1; split <;> omega
  have h2 : hd2 y ≤ 2 := by unfold hd2; repeat' split
                            all_goals omega
  unfold hT; omega
theorem h1_start {n : Int} (h : 347996 ≤ n) : HI1 n ((n - 347996) * 98496 / 35975351) ((n - 347996) * 98496 / 35975351 - 1) := by
  refine ⟨rfl, ?_, by omega⟩
  have h1 := hT_le ((n - 347996) * 98496 / 35975351 - 1)
  have h2 : hd0 ((n - 347996) * 98496 / 35975351 - 1) ≤ n - 348001 := by
    unfold hd0 hmo; omega
  omega
noncomputable def hYr (n : Int) : Int := open Classical in if h : ∃ y, hT y ≤ n ∧ n < hT (y + 1) then h.choose else 0
theorem hYr_eq {n y : Int} (h1 : hT y ≤ n) (h2 : n < hT (y + 1)) : y = hYr n := by
  have hx : ∃ y, hT y ≤ n ∧ n < hT (y + 1) := ⟨y, h1, h2⟩
  rw [hYr, dif_pos hx]
  have a := hx.choose_spec
  have e1 : y ≤ hx.choose := hT_lt (Int.lt_of_le_of_lt h1 a.2)
  have e2 : hx.choose ≤ y := hT_lt (Int.lt_of_le_of_lt a.1 h2)
  omega
theorem h1_turn {n i y : Int} (q : HI1 n i y) (h : hT i ≤ n) : HI1 n (i + 1) (y + 1) := by
  obtain ⟨e, q2, q3⟩ := q
  have e2 : y + 1 = i := by omega
  refine ⟨by omega, ?_, by omega⟩
  rw [e2]; exact h
theorem h1_meas {n i y : Int} (q : HI1 n i y) (h : hT i ≤ n) : (n - (i + 1)).toNat < (n - i).toNat := by
  have := hT_gt (i := i) (by omega); omega
abbrev HX1 (n y : Int) : Prop := y = hYr n ∧ hT y ≤ n ∧ n < hT (y + 1) ∧ -1 ≤ y
theorem h1_exit {n i y : Int} (q : HI1 n i y) (h : n < hT i) : HX1 n y := by
  obtain ⟨e, q2, q3⟩ := q
  have e2 : i = y + 1 := by omega
  rw [e2] at h
  exact ⟨hYr_eq q2 h, q2, h, q3⟩
abbrev HI2 (n i m : Int) : Prop := i = m ∧ 1 ≤ m ∧ m ≤ hms (hYr n) ∧ hj (hYr n) m 1 ≤ n ∧ ((7 ≤ m ∧ n < hj (hYr n) 1 1) ∨ (m < 7 ∧ hj (hYr n) 1 1 ≤ n))
theorem h2_start7 {n y : Int} (x : HX1 n y) (h : n < hj y 1 1) : HI2 n 7 7 := by
  obtain ⟨e, x1, x2, x3⟩ := x
  have hm := hms_in (hYr n)
  rw [e] at h x1
  exact ⟨rfl, by omega, by omega, by rw [hj_7]; exact x1, .inl ⟨by omega, h⟩⟩
theorem h2_start1 {n y : Int} (x : HX1 n y) (h : hj y 1 1 ≤ n) : HI2 n 1 1 := by
  obtain ⟨e, x1, x2, x3⟩ := x
  have hm := hms_in (hYr n)
  rw [e] at h
  exact ⟨rfl, by omega, by omega, h, .inr ⟨by omega, h⟩⟩
theorem h2_pre {n y i m : Int} (x : HX1 n y) (q : HI2 n i m) : -100 ≤ y ∧ 1 ≤ i ∧ i ≤ 13 ∧ 0 ≤ hml y i := by
  have hm := hms_in (hYr n)
  have hp := hml_pos y i
  obtain ⟨e, x1, x2, x3⟩ := x
  obtain ⟨q1, q2, q3, q4, q5⟩ := q
  omega
theorem h2_pre' {n y i m : Int} (x : HX1 n y) (q : HI2 n i m) : -100 ≤ y ∧ i ≤ 13 := by
  have := h2_pre x q
  omega
theorem h0_pre {n y : Int} (x : HX1 n y) : -100 ≤ y ∧ (1 : Int) ≤ 1 ∧ (1 : Int) ≤ 13 ∧ (0 : Int) ≤ 1 := by
  obtain ⟨e, x1, x2, x3⟩ := x
  omega
theorem h2_turn {n y i m : Int} (x : HX1 n y) (q : HI2 n i m) (h : hj y i (hml y i) < n) : HI2 n (i + 1) (m + 1) := by
  obtain ⟨e, x1, x2, x3⟩ := x
  obtain ⟨rfl, q2, q3, q4, q5⟩ := q
  subst e
  have hm := hms_in (hYr n)
  rcases q5 with ⟨c1, c2⟩ | ⟨c1, c2⟩
  · have hl := hj_last_hi (y := hYr n) c1
    have hne : i ≠ hms (hYr n) := by
      intro hh
      have := hj_last_hms (hYr n)
      rw [← hh] at this
      omega
    exact ⟨rfl, by omega, by omega, by omega, .inl ⟨by omega, c2⟩⟩
  · have hne : i ≠ 6 := by
      intro hh
      have := hj_last_6 (hYr n)
      rw [hh] at h
      omega
    have hl := hj_last_lo (y := hYr n) q2 (by omega)
    exact ⟨rfl, by omega, by omega, by omega, .inr ⟨by omega, c2⟩⟩
theorem h2_meas {n i m : Int} (q : HI2 n i m) : (14 - (m + 1)).toNat < (14 - m).toNat := by
  have hm := hms_in (hYr n)
  obtain ⟨q1, q2, q3, q4, q5⟩ := q
  omega
abbrev HX2 (n i m : Int) : Prop := HI2 n i m ∧ n ≤ hj (hYr n) m (hml (hYr n) m)
theorem h2_exit {n y i m : Int} (x : HX1 n y) (q : HI2 n i m) (h : n ≤ hj y i (hml y i)) : HX2 n i m := by
  obtain ⟨e, x1, x2, x3⟩ := x
  subst e
  refine ⟨q, ?_⟩
  obtain ⟨rfl, _⟩ := q
  exact h
theorem h_endpre {n y i m : Int} (x : HX1 n y) (q : HX2 n i m) : -100 ≤ y ∧ 1 ≤ m ∧ m ≤ 13 ∧ (0 : Int) ≤ 1 := by
  have := h2_pre x q.1
  obtain ⟨⟨q1, _⟩, _⟩ := q
  omega
theorem h_end {n y i m : Int} (x : HX1 n y) (q : HX2 n i m) : y = hY n ∧ m = hM n ∧ n - hj y m 1 + 1 = hD n := by
  obtain ⟨e, x1, x2, x3⟩ := x
  subst e
  obtain ⟨⟨q1, q2, q3, q4, q5⟩, q6⟩ := q
  exact HOK.eq ⟨x1, x2, q2, q3, q4, q6, rfl⟩
local macro_rules | `(tactic| walk_at "call ref") => `(tactic| (k_here; (with_reducible show wpAny _ _ (call (Value.ref 364) _) _ _ _); k_dflt (refine' use1 (hj_spec _ _ _ _ _ _ _) ?k1a364c69 ?k2a364c69 ?k3a364c69 ?k4a364c69 ?k5a364c69 ?kKa364c69 ?kda364c69 ?kua364c69 ?kpa364c69 ?_; (case k1a364c69 => k_asm); (case k2a364c69 => k_asm); (case k3a364c69 => k_asm); (case k4a364c69 => k_asm); (case k5a364c69 => k_asm); (case kKa364c69 => first | exact rfl | assumption); (case kda364c69 => first | omega | ktr_room); (case kua364c69 => first | omega | ktr_units); (case kpa364c69 => first | trivial | assumption | omega | (constructor <;> omega) | k_extra "pre")); intro t9 h9 tk9 F9 N9; (try dsimp only); (try k_sweep); (try k_fold)))
local macro_rules | `(tactic| walk_at "call ref") => `(tactic| (k_here; (with_reducible show wpAny _ _ (call (Value.ref 364) _) _ _ _); k_dflt (refine' use1 (hT_spec _ _ _ _ _) ?k1a364c70 ?k2a364c70 ?k3a364c70 ?k4a364c70 ?k5a364c70 ?kKa364c70 ?kda364c70 ?kua364c70 ?kpa364c70 ?_; (case k1a364c70 => k_asm); (case k2a364c70 => k_asm); (case k3a364c70 => k_asm); (case k4a364c70 => k_asm); (case k5a364c70 => k_asm); (case kKa364c70 => first | exact rfl | assumption); (case kda364c70 => first | omega | ktr_room); (case kua364c70 => first | omega | ktr_units); (case kpa364c70 => first | trivial | assumption | omega | (constructor <;> omega) | k_extra "pre")); intro t9 h9 tk9 F9 N9; (try dsimp only); (try k_sweep); (try k_fold)))
theorem hfrom_spec (news) (n : Int) (t1 : Tok) : Call1 w loose mean mg mb 8 371 news [.int n t1] (347996 ≤ n) (Ret3 (hY n) (hM n) (hD n)) := by
  refine unwrap ?_
  simp (disch := k_dflt (
    k_with_none
    k_with "gl" => first | exact gl_to_jd_hebrew _ | exact gl_TISHRI _ | exact gl_NISAN _ | exact gl_EPOCH_hebrew _ | exact gl_month_days _
    k_with "gb" => first | exact gb_int _
    dsimp only [Call1]
    intro dp un gd cn cs aF ccd cl outer A₀ base h₀ L mp s Q E B F X N T hk hdp hun hpre hret
    refine wpAny_call ?_
    k_dflt cell_enter
    (rename Fr _ _ _ _ => FE)
    (refine' startP (l' := [(Str.ofString "jd", .int n t1)]) ?cs ?nd FE ?e ?S ?_)
    (case cs => (first | (dsimp only; done) | rfl))
    (case nd => kernel_rfl!)
    (case e => kernel_rfl!)
    (case S => with_reducible (apply Sts.cons; apply Sts.nil; (repeat (first | exact Nones.nil | apply Nones.cons)); (all_goals (repeat (first | exact St.here | apply St.there)))))
    (clear FE; intro hnd FE tk0; (try k_fold))
    k_with "while" => ((with_reducible show wpAny _ _ (execs (Stmt.While _ _ _ ⟨410, _, _, _⟩ :: _) _) _ _ _); (rename Fr _ _ _ _ => zF); (rename News _ _ _ _ => zN); k_dflt (refine' while2 "i" "year" (fun i y => HI1 n i y) (fun i _ => (n - i).toNat) (fun _ y => HX1 n y) (by assumption) zF zN ?zwa0 ?zwb0 ?zwa1 ?zwb1 ?zwi ?_ ?_); (case zwa0 => with_reducible (repeat (first | exact At.here | refine At.there ?_))); (case zwb0 => (intros; with_reducible (repeat (first | exact St.here | apply St.there)))); (case zwa1 => with_reducible (repeat (first | exact At.here | refine At.there ?_))); (case zwb1 => (intros; with_reducible (repeat (first | exact St.here | apply St.there)))); (case zwi => (exact h1_start hpre)); (all_goals (clear zF zN; intros; (try dsimp only at *); (try k_fold))))
    k_with "while" => ((with_reducible show wpAny _ _ (execs (Stmt.While _ _ _ ⟨418, _, _, _⟩ :: _) _) _ _ _); (rename Fr _ _ _ _ => zF); (rename News _ _ _ _ => zN); k_dflt (refine' while2 "i" "month" (fun i m => HI2 n i m) (fun _ m => (14 - m).toNat) (fun i m => HX2 n i m) (by assumption) zF zN ?zwa0 ?zwb0 ?zwa1 ?zwb1 ?zwi ?_ ?_); (case zwa0 => with_reducible (repeat (first | exact At.here | refine At.there ?_))); (case zwb0 => (intros; with_reducible (repeat (first | exact St.here | apply St.there)))); (case zwa1 => with_reducible (repeat (first | exact At.here | refine At.there ?_))); (case zwb1 => (intros; with_reducible (repeat (first | exact St.here | apply St.there)))); (case zwi => (first | exact h2_start7 (by assumption) (by assumption) | exact h2_start1 (by assumption) (by assumption) | exact h2_start1 (by assumption) (Int.not_lt.mp (by assumption)))); (all_goals (clear zF zN; intros; (try dsimp only at *); (try k_fold))))
    k_with "inv" => first | exact h1_turn (by assumption) (by assumption) | exact h2_turn (by assumption) (by assumption) (by assumption)
    k_with "meas" => first | exact h1_meas (by assumption) (by assumption) | exact h2_meas (by assumption)
    k_with "exit" => first | exact h1_exit (by assumption) (by assumption) | exact h1_exit (by assumption) (Int.not_le.mp (by assumption)) | exact h2_exit (by assumption) (by assumption) (Int.not_lt.mp (by assumption)) | exact h2_exit (by assumption) (by assumption) (by assumption)
    k_with "pre" => first | exact h0_pre (by assumption) | exact h2_pre (by assumption) (by assumption) | exact h2_pre' (by assumption) (by assumption) | exact h_endpre (by assumption) (by assumption) | omega
    k_steps
    all_goals (refine' end3 hret ?q7a ?q7b ?q7c ?q7f ?q7n ?q7m ?q7s ?q7l; (case q7f => k_asm); (case q7n => k_asm); (case q7m => k_mem); (case q7s => (first | exact fun _ h => h | exact fun _ h => .tail _ h | exact fun _ h => .tail _ (.tail _ h) | exact fun _ h => .tail _ (.tail _ (.tail _ h)) | exact fun _ h => .tail _ (.tail _ (.tail _ (.tail _ h))) | exact fun _ h => .tail _ (.tail _ (.tail _ (.tail _ (.tail _ h)))) | (intro p9 hp9; repeat (first | exact hp9 | refine List.Mem.tail _ ?_)))); (case q7l => (first | assumption | k_extra "lt" | exact allLt_of (by assumption) | exact And.right (by assumption) | (simp only [AllLt, and_true] at *; first | assumption | exact allLt_of (by assumption) | exact And.right (by assumption) | (simp_all; done)))); (case q7a => (first | exact (h_end (by assumption) (by assumption)).1 | exact (h_end (by assumption) (by assumption)).2.1 | exact (h_end (by assumption) (by assumption)).2.2)); (case q7b => (first | exact (h_end (by assumption) (by assumption)).1 | exact (h_end (by assumption) (by assumption)).2.1 | exact (h_end (by assumption) (by assumption)).2.2)); (case q7c => (first | exact (h_end (by assumption) (by assumption)).1 | exact (h_end (by assumption) (by assumption)).2.1 | exact (h_end (by assumption) (by assumption)).2.2))))) only [↓wrap_true]
local macro_rules | `(tactic| walk_at "call ref") => `(tactic| (k_here; (with_reducible show wpAny _ _ (call (Value.ref 371) _) _ _ _); k_dflt (refine' use1 (hfrom_spec _ _ _) ?k1a371c71 ?k2a371c71 ?k3a371c71 ?k4a371c71 ?k5a371c71 ?kKa371c71 ?kda371c71 ?kua371c71 ?kpa371c71 ?_; (case k1a371c71 => k_asm); (case k2a371c71 => k_asm); (case k3a371c71 => k_asm); (case k4a371c71 => k_asm); (case k5a371c71 => k_asm); (case kKa371c71 => first | exact rfl | assumption); (case kda371c71 => first | omega | ktr_room); (case kua371c71 => first | omega | ktr_units); (case kpa371c71 => first | trivial | assumption | omega | (constructor <;> omega) | k_extra "pre")); intro D9 t91 t92 t93 c9 h9 tk9 F9 N9 l9; (try simp only [AllLt, and_true] at l9); (try dsimp only); (try k_sweep); (try k_fold)))
theorem to_greg_hebrew_spec (news) (y m d : Int) (t1 t2 t3 : Tok) : Call1 w loose mean mg mb 9 378 news [.int y t1, .int m t2, .int d t3] (-100 ≤ y ∧ 1 ≤ m ∧ m ≤ 13 ∧ 0 ≤ d) (Ret3 (cy (hj y m d)) (cm (hj y m d)) (cd (hj y m d))) := by
  refine unwrap ?_
  simp (disch := k_dflt (
    k_with_none
    k_with "gl" => first | exact gl_from_jd_gregorian _ | exact gl_to_jd_hebrew _
    dsimp only [Call1]
    intro dp un gd cn cs aF ccd cl outer A₀ base h₀ L mp s Q E B F X N T hk hdp hun hpre hret
    refine wpAny_call ?_
    k_dflt cell_enter
    (rename Fr _ _ _ _ => FE)
    (refine' startP (l' := [(Str.ofString "day", .int d t3), (Str.ofString "month", .int m t2), (Str.ofString "year", .int y t1)]) ?cs ?nd FE ?e ?S ?_)
    (case cs => (first | (dsimp only; done) | rfl))
    (case nd => kernel_rfl!)
    (case e => kernel_rfl!)
    (case S => with_reducible (apply Sts.cons; apply Sts.cons; apply Sts.cons; apply Sts.nil; (repeat (first | exact Nones.nil | apply Nones.cons)); (all_goals (repeat (first | exact St.here | apply St.there)))))
    (clear FE; intro hnd FE tk0; (try k_fold))
    k_steps
    all_goals (refine' end3 hret ?q7a ?q7b ?q7c ?q7f ?q7n ?q7m ?q7s ?q7l; (case q7f => k_asm); (case q7n => k_asm); (case q7m => k_mem); (case q7s => (first | exact fun _ h => h | exact fun _ h => .tail _ h | exact fun _ h => .tail _ (.tail _ h) | exact fun _ h => .tail _ (.tail _ (.tail _ h)) | exact fun _ h => .tail _ (.tail _ (.tail _ (.tail _ h))) | exact fun _ h => .tail _ (.tail _ (.tail _ (.tail _ (.tail _ h)))) | (intro p9 hp9; repeat (first | exact hp9 | refine List.Mem.tail _ ?_)))); (case q7l => (first | assumption | k_extra "lt" | exact allLt_of (by assumption) | exact And.right (by assumption) | (simp only [AllLt, and_true] at *; first | assumption | exact allLt_of (by assumption) | exact And.right (by assumption) | (simp_all; done)))); (case q7a => (rfl)); (case q7b => (rfl)); (case q7c => (rfl))))) only [↓wrap_true]
local macro_rules | `(tactic| walk_at "call ref") => `(tactic| (k_here; (with_reducible show wpAny _ _ (call (Value.ref 378) _) _ _ _); k_dflt (refine' use1 (to_greg_hebrew_spec _ _ _ _ _ _ _) ?k1a378c72 ?k2a378c72 ?k3a378c72 ?k4a378c72 ?k5a378c72 ?kKa378c72 ?kda378c72 ?kua378c72 ?kpa378c72 ?_; (case k1a378c72 => k_asm); (case k2a378c72 => k_asm); (case k3a378c72 => k_asm); (case k4a378c72 => k_asm); (case k5a378c72 => k_asm); (case kKa378c72 => first | exact rfl | assumption); (case kda378c72 => first | omega | ktr_room); (case kua378c72 => first | omega | ktr_units); (case kpa378c72 => first | trivial | assumption | omega | (constructor <;> omega) | k_extra "pre")); intro D9 t91 t92 t93 c9 h9 tk9 F9 N9 l9; (try simp only [AllLt, and_true] at l9); (try dsimp only); (try k_sweep); (try k_fold)))

end

section

-- A15
-- the law's helpers: morrow, place, fours
section
variable {prog : Program} {wd : World} {A : Around} {E : Value → Shared → Prop} {s : Shared} {zs : List Int}
theorem sub_tupAt {value slice : Expr} {t : Addr} {k : Int} {u : Tok} {Q : Value → Shared → Prop} (ht : TupAt s.heap t zs) (hk : 0 ≤ k ∧ k < zs.length ∧ k < 2 ^ 62) (h : ∀ v, Q (.int (zs.getD k.toNat 0) v) s)
    (hs : subscripted slice false (.ref t) (.int k u) = operate [.ref t, .int k u] (getItem (.ref t) (.int k u)) := by with_unfolding_all rfl) :
    wpAny (model prog wd) A (subscriptTail value slice (.ref t) (.int k u)) Q E s := by
  obtain ⟨vs, T, hi⟩ := ht
  have hl := hi.length
  obtain ⟨v, hv⟩ := ints_at hi (k := k.toNat) (by omega)
  refine item_tupleT (j := k.toNat) T (by omega) (by omega) ?_ hv (h v) hs
  unfold seqIndex?
  have h1 : ¬ k < 0 := by omega
  have h2 : k < (vs.length : Int) := by omega
  simp [h1, h2, hk.1]
end
local macro_rules | `(tactic| walk_at "subscriptTail Name BinOp ref int") => `(tactic| (k_here; k_dflt (refine' sub_tupAt ?zqT ?zqL ?_ ?zqS; (case zqT => first | exact tupAt_led (by k_asm) (by k_mem) (by first | assumption | (repeat constructor)) | exact tupAt_top (by k_asm) (by k_asm) (by k_is) (by repeat constructor)); (case zqL => k_extra "sub"); (case zqS => with_unfolding_all rfl)); intro v9; (try k_sweep); (try dsimp only)))
def siz (m : Int) : Int := [31, 28, 31, 30, 31, 30, 31, 31, 30, 31, 30, 31].getD (m - 1).toNat 0
theorem siz_bound {m : Int} (h : 1 ≤ m ∧ m ≤ 12) : 0 ≤ m - 1 ∧ m - 1 < (([31, 28, 31, 30, 31, 30, 31, 31, 30, 31, 30, 31] : List Int).length : Int) ∧ m - 1 < 2 ^ 62 := by simp; omega
abbrev plb (m d : Int) : Int := d - 1 + (List.take (m - 1).toNat [31, 28, 31, 30, 31, 30, 31, 31, 30, 31, 30, 31]).sum
def plc (y m d : Int) : Int := if 2 < m ∧ dys y = 366 then plb m d + 1 else plb m d
theorem plc_a {y m d : Int} (h : 2 < m) (h2 : dys y = 366) : plb m d + 1 = plc y m d := (if_pos ⟨h, h2⟩).symm
theorem plc_b {y m d : Int} (h2 : dys y ≠ 366) : plb m d = plc y m d := (if_neg fun h => h2 h.2).symm
theorem plc_c {y m d : Int} (h : ¬ 2 < m) : plb m d = plc y m d := (if_neg fun h2 => h h2.1).symm
theorem place_spec (news) (D : Addr) (y m d : Int) (t1 t2 t3 : Tok) (c : Nat) (hm : (D, ({ cls := .type "tuple", data := .seq #[.int y t1, .int m t2, .int d t3] c } : Obj)) ∈ news) :
    Call1 w loose mean mg mb 3 528 news [.ref D] (1 ≤ m ∧ m ≤ 12) (RetI (plc y m d)) := by
  refine unwrap ?_
  simp (disch := k_dflt (
    k_with_none
    k_with "gl" => first | exact gl_law_sizes _ | exact gl_law_days _
    k_with "gb" => first | exact gb_sum _
    dsimp only [Call1]
    intro dp un gd cn cs aF ccd cl outer A₀ base h₀ L mp s Q E B F X N T hk hdp hun hpre hret
    refine wpAny_call ?_
    k_dflt cell_enter
    (rename Fr _ _ _ _ => FE)
    (refine' startP (l' := [(Str.ofString "civil", .ref D)]) ?cs ?nd FE ?e ?S ?_)
    (case cs => (first | (dsimp only; done) | rfl))
    (case nd => kernel_rfl!)
    (case e => kernel_rfl!)
    (case S => with_reducible (apply Sts.cons; apply Sts.nil; (repeat (first | exact Nones.nil | apply Nones.cons)); (all_goals (repeat (first | exact St.here | apply St.there)))))
    (clear FE; intro hnd FE tk0; (try k_fold))
    k_with "sub" => exact siz_bound hpre
    k_steps
    all_goals (refine' endI hret ?q7a ?q7f ?q7n ?q7s; (case q7f => k_asm); (case q7n => k_asm); (case q7s => (first | exact fun _ h => h | exact fun _ h => .tail _ h | exact fun _ h => .tail _ (.tail _ h) | exact fun _ h => .tail _ (.tail _ (.tail _ h)) | exact fun _ h => .tail _ (.tail _ (.tail _ (.tail _ h))) | exact fun _ h => .tail _ (.tail _ (.tail _ (.tail _ (.tail _ h)))) | (intro p9 hp9; repeat (first | exact hp9 | refine List.Mem.tail _ ?_)))); (case q7a => (with_reducible first | exact plc_a (by assumption) (by assumption) | exact plc_b (by assumption) | exact plc_c (by assumption)))))) only [↓wrap_true]
abbrev szz (m : Int) : Int := [31, 28, 31, 30, 31, 30, 31, 31, 30, 31, 30, 31].getD (m - 1).toNat 0
theorem szz_v {m : Int} (h1 : 1 ≤ m) (h2 : m ≤ 12) : szz m = mlenl false m := by
  rcases twelve h1 h2 with h | h | h | h | h | h | h | h | h | h | h | h <;> subst h <;> decide
def CivOf (n y m d : Int) : Prop := y = cy n ∧ m = cm n ∧ d = cd n
theorem CivOf.day {n y m d : Int} (h : CivOf n y m d) : legal y m d ∧ gjd y m d = n := by
  obtain ⟨rfl, rfl, rfl⟩ := h
  exact ⟨civ_legal n, civ_day n⟩
theorem mlenl_le (l : Bool) (m : Int) : mlenl false m ≤ mlenl l m ∧ (mlenl l m = mlenl false m ∨ (m = 2 ∧ l = true ∧ mlenl l m = 29 ∧ mlenl false m = 28)) := by
  cases l
  · exact ⟨Int.le_refl _, .inl rfl⟩
  · unfold mlenl; repeat' split
    all_goals simp_all
theorem mor_a {n y m d : Int} (P : CivOf n y m d) (h : d < szz m) : cy (n + 1) = y ∧ cm (n + 1) = m ∧ cd (n + 1) = d + 1 := by
  obtain ⟨⟨l1, l2, l3, l4⟩, e⟩ := P.day
  rw [szz_v l1 l2] at h
  have := mlenl_le (isleap y) m
  refine civ_only ⟨l1, l2, by omega, by rw [mlen_l]; omega⟩ ?_
  rw [gjd_off] at e ⊢
  omega
theorem mor_b {n y m d : Int} (P : CivOf n y m d) (hm : m = 2) (hd : d = 28) (hy : dys y = 366) : cy (n + 1) = y ∧ cm (n + 1) = m ∧ cd (n + 1) = d + 1 := by
  obtain ⟨⟨l1, l2, l3, l4⟩, e⟩ := P.day
  have hl : isleap y = true := by rcases dys_cases y with h | h <;> simp_all
  refine civ_only ⟨l1, l2, by omega, by rw [mlen_l, hl, hm, hd]; decide⟩ ?_
  rw [gjd_off] at e ⊢
  omega
theorem mor_len {n y m d : Int} (P : CivOf n y m d) (h : ¬ d < szz m) (h2 : ¬ (m = 2 ∧ d = 28 ∧ dys y = 366)) : d = mlenl (isleap y) m := by
  obtain ⟨⟨l1, l2, l3, l4⟩, e⟩ := P.day
  rw [szz_v l1 l2] at h
  rw [mlen_l] at l4
  obtain ⟨a, b | ⟨b1, b2, b3, b4⟩⟩ := mlenl_le (isleap y) m
  · omega
  · have := dys_cases y
    simp only [b2] at this
    simp at this
    omega
theorem mor_c {n y m d : Int} (P : CivOf n y m d) (h : ¬ d < szz m) (h2 : ¬ (m = 2 ∧ d = 28 ∧ dys y = 366)) (h3 : m < 12) : cy (n + 1) = y ∧ cm (n + 1) = m + 1 ∧ cd (n + 1) = 1 := by
  have hd := mor_len P h h2
  obtain ⟨⟨l1, l2, l3, l4⟩, e⟩ := P.day
  refine civ_only ⟨by omega, by omega, by omega, mlen_one _ _⟩ ?_
  rw [gjd_off] at e ⊢
  have k : moff (isleap y) (m + 1) = moff (isleap y) m + mlenl (isleap y) m := by
    rcases twelve l1 l2 with h | h | h | h | h | h | h | h | h | h | h | h <;> subst h <;> cases isleap y <;> first | rfl | omega
  omega
theorem mor_d {n y m d : Int} (P : CivOf n y m d) (h : ¬ d < szz m) (h3 : ¬ m < 12) : cy (n + 1) = y + 1 ∧ cm (n + 1) = 1 ∧ cd (n + 1) = 1 := by
  have hd := mor_len P h (by omega)
  obtain ⟨⟨l1, l2, l3, l4⟩, e⟩ := P.day
  have hm : m = 12 := by omega
  subst hm
  refine civ_only ⟨by omega, by omega, by omega, mlen_one _ _⟩ ?_
  rw [gjd_jan1, jan1_next]
  rw [gjd_off] at e
  have k : moff (isleap y) 12 + 31 = dys y := by
    rw [dys_l]; cases isleap y <;> rfl
  have k2 : d = 31 := by rw [hd]; rfl
  omega
theorem morrow_spec (news) (D : Addr) (n y m d : Int) (t1 t2 t3 : Tok) (c : Nat) (hm : (D, ({ cls := .type "tuple", data := .seq #[.int y t1, .int m t2, .int d t3] c } : Obj)) ∈ news) :
    Call1 w loose mean mg mb 3 521 news [.ref D] (CivOf n y m d) (Ret3 (cy (n + 1)) (cm (n + 1)) (cd (n + 1))) := by
  refine unwrap ?_
  simp (disch := k_dflt (
    k_with_none
    k_with "gl" => first | exact gl_law_sizes _ | exact gl_law_days _
    dsimp only [Call1]
    intro dp un gd cn cs aF ccd cl outer A₀ base h₀ L mp s Q E B F X N T hk hdp hun hpre hret
    refine wpAny_call ?_
    k_dflt cell_enter
    (rename Fr _ _ _ _ => FE)
    (refine' startP (l' := [(Str.ofString "civil", .ref D)]) ?cs ?nd FE ?e ?S ?_)
    (case cs => (first | (dsimp only; done) | rfl))
    (case nd => kernel_rfl!)
    (case e => kernel_rfl!)
    (case S => with_reducible (apply Sts.cons; apply Sts.nil; (repeat (first | exact Nones.nil | apply Nones.cons)); (all_goals (repeat (first | exact St.here | apply St.there)))))
    (clear FE; intro hnd FE tk0; (try k_fold))
    have hl := hpre.day.1
    k_with "sub" => exact siz_bound ⟨hl.1, hl.2.1⟩
    k_steps
    all_goals (refine' end3 hret ?q7a ?q7b ?q7c ?q7f ?q7n ?q7m ?q7s ?q7l; (case q7f => k_asm); (case q7n => k_asm); (case q7m => k_mem); (case q7s => (first | exact fun _ h => h | exact fun _ h => .tail _ h | exact fun _ h => .tail _ (.tail _ h) | exact fun _ h => .tail _ (.tail _ (.tail _ h)) | exact fun _ h => .tail _ (.tail _ (.tail _ (.tail _ h))) | exact fun _ h => .tail _ (.tail _ (.tail _ (.tail _ (.tail _ h)))) | (intro p9 hp9; repeat (first | exact hp9 | refine List.Mem.tail _ ?_)))); (case q7l => (first | assumption | k_extra "lt" | exact allLt_of (by assumption) | exact And.right (by assumption) | (simp only [AllLt, and_true] at *; first | assumption | exact allLt_of (by assumption) | exact And.right (by assumption) | (simp_all; done)))); (case q7a => (first | exact (mor_a hpre (by assumption)).1.symm | exact (mor_a hpre (by assumption)).2.1.symm | exact (mor_a hpre (by assumption)).2.2.symm | exact (mor_b hpre (by assumption) (by assumption) (by assumption)).1.symm | exact (mor_b hpre (by assumption) (by assumption) (by assumption)).2.1.symm | exact (mor_b hpre (by assumption) (by assumption) (by assumption)).2.2.symm | exact (mor_c hpre (by assumption) (by omega) (by omega)).1.symm | exact (mor_c hpre (by assumption) (by omega) (by omega)).2.1.symm | exact (mor_c hpre (by assumption) (by omega) (by omega)).2.2.symm | exact (mor_d hpre (by assumption) (by assumption)).1.symm | exact (mor_d hpre (by assumption) (by assumption)).2.1.symm | exact (mor_d hpre (by assumption) (by assumption)).2.2.symm)); (case q7b => (first | exact (mor_a hpre (by assumption)).1.symm | exact (mor_a hpre (by assumption)).2.1.symm | exact (mor_a hpre (by assumption)).2.2.symm | exact (mor_b hpre (by assumption) (by assumption) (by assumption)).1.symm | exact (mor_b hpre (by assumption) (by assumption) (by assumption)).2.1.symm | exact (mor_b hpre (by assumption) (by assumption) (by assumption)).2.2.symm | exact (mor_c hpre (by assumption) (by omega) (by omega)).1.symm | exact (mor_c hpre (by assumption) (by omega) (by omega)).2.1.symm | exact (mor_c hpre (by assumption) (by omega) (by omega)).2.2.symm | exact (mor_d hpre (by assumption) (by assumption)).1.symm | exact (mor_d hpre (by assumption) (by assumption)).2.1.symm | exact (mor_d hpre (by assumption) (by assumption)).2.2.symm)); (case q7c => (first | exact (mor_a hpre (by assumption)).1.symm | exact (mor_a hpre (by assumption)).2.1.symm | exact (mor_a hpre (by assumption)).2.2.symm | exact (mor_b hpre (by assumption) (by assumption) (by assumption)).1.symm | exact (mor_b hpre (by assumption) (by assumption) (by assumption)).2.1.symm | exact (mor_b hpre (by assumption) (by assumption) (by assumption)).2.2.symm | exact (mor_c hpre (by assumption) (by omega) (by omega)).1.symm | exact (mor_c hpre (by assumption) (by omega) (by omega)).2.1.symm | exact (mor_c hpre (by assumption) (by omega) (by omega)).2.2.symm | exact (mor_d hpre (by assumption) (by assumption)).1.symm | exact (mor_d hpre (by assumption) (by assumption)).2.1.symm | exact (mor_d hpre (by assumption) (by assumption)).2.2.symm))))) only [↓wrap_true]
end

end

section

-- A16
-- the law's helper fours (years of 365 days, 366 where year % 4 == rest)
def F4 (r y : Int) : Int := 365 * y + (y + 3 - r) / 4
def FT (c0 y0 r : Int) : Int := F4 r y0 + c0
def fyr (t r : Int) : Int := (4 * t + r) / 1461
def FI (c0 y0 r c y : Int) : Prop := F4 r y + c = FT c0 y0 r ∧ 0 ≤ c
def FX (c0 y0 r c y : Int) : Prop := y = fyr (FT c0 y0 r) r ∧ c = FT c0 y0 r - F4 r (fyr (FT c0 y0 r) r)
theorem fi_start (c0 y0 r : Int) : FI c0 y0 r (c0 % 1461) (y0 + 4 * (c0 / 1461)) := by unfold FI FT F4; omega
theorem fi_turn_a {c0 y0 r c y : Int} (hr : 0 ≤ r ∧ r ≤ 3) (h : FI c0 y0 r c y) (h1 : y % 4 = r) (h2 : 366 ≤ c) : FI c0 y0 r (c - 366) (y + 1) := by unfold FI FT F4 at *; omega
theorem fi_turn_b {c0 y0 r c y : Int} (hr : 0 ≤ r ∧ r ≤ 3) (h : FI c0 y0 r c y) (h1 : y % 4 ≠ r) (h2 : 365 ≤ c) : FI c0 y0 r (c - 365) (y + 1) := by unfold FI FT F4 at *; omega
theorem fi_exit {c0 y0 r c y : Int} (hr : 0 ≤ r ∧ r ≤ 3) (h : FI c0 y0 r c y) (h1 : (y % 4 = r ∧ c < 366) ∨ c < 365) : FX c0 y0 r c y := by
  have e : y = fyr (FT c0 y0 r) r := by
    unfold FI at h; unfold fyr
    obtain ⟨h, h0⟩ := h
    rw [← h]
    unfold F4
    omega
  refine ⟨e, ?_⟩
  rw [← e]
  have := h.1
  omega
theorem fi_meas_a {c0 y0 r c y : Int} (h : FI c0 y0 r c y) (h2 : 366 ≤ c) : (c - 366).toNat < c.toNat := by omega
theorem fi_meas_b {c0 y0 r c y : Int} (h : FI c0 y0 r c y) (h2 : 365 ≤ c) : (c - 365).toNat < c.toNat := by omega
theorem fours_spec (news) (c0 y0 r : Int) (t1 t2 t3 : Tok) : Call1 w loose mean mg mb 1 535 news [.int c0 t1, .int y0 t2, .int r t3] (0 ≤ r ∧ r ≤ 3) (Ret2 (fyr (FT c0 y0 r) r) (FT c0 y0 r - F4 r (fyr (FT c0 y0 r) r))) := by
  refine unwrap ?_
  simp (disch := k_dflt (
    k_with_none
    k_with "gb" => first | exact gb_divmod _
    dsimp only [Call1]
    intro dp un gd cn cs aF ccd cl outer A₀ base h₀ L mp s Q E B F X N T hk hdp hun hpre hret
    refine wpAny_call ?_
    k_dflt cell_enter
    (rename Fr _ _ _ _ => FE)
    (refine' startP (l' := [(Str.ofString "rest", .int r t3), (Str.ofString "year", .int y0 t2), (Str.ofString "count", .int c0 t1)]) ?cs ?nd FE ?e ?S ?_)
    (case cs => (first | (dsimp only; done) | rfl))
    (case nd => kernel_rfl!)
    (case e => kernel_rfl!)
    (case S => with_reducible (apply Sts.cons; apply Sts.cons; apply Sts.cons; apply Sts.nil; (repeat (first | exact Nones.nil | apply Nones.cons)); (all_goals (repeat (first | exact St.here | apply St.there)))))
    (clear FE; intro hnd FE tk0; (try k_fold))
    k_with "while" => ((with_reducible show wpAny _ _ (execs (Stmt.While _ _ _ ⟨671, _, _, _⟩ :: _) _) _ _ _); (rename Fr _ _ _ _ => zF); (rename News _ _ _ _ => zN); k_dflt (refine' while2 "count" "year" (fun c y => FI c0 y0 r c y) (fun c _ => c.toNat) (fun c y => FX c0 y0 r c y) (by assumption) zF zN ?zwa0 ?zwb0 ?zwa1 ?zwb1 ?zwi ?_ ?_); (case zwa0 => with_reducible (repeat (first | exact At.here | refine At.there ?_))); (case zwb0 => (intros; with_reducible (repeat (first | exact St.here | apply St.there)))); (case zwa1 => with_reducible (repeat (first | exact At.here | refine At.there ?_))); (case zwb1 => (intros; with_reducible (repeat (first | exact St.here | apply St.there)))); (case zwi => (exact fi_start c0 y0 r)); (all_goals (clear zF zN; intros; (try dsimp only at *); (try k_fold))))
    k_with "inv" => first | (exfalso; omega) | exact fi_turn_a hpre (by assumption) (by assumption) (by assumption) | exact fi_turn_b hpre (by assumption) (by assumption) (by assumption)
    k_with "meas" => first | (exfalso; omega) | omega | exact fi_meas_a (by assumption) (by assumption) | exact fi_meas_b (by assumption) (by assumption)
    k_with "exit" => first | exact fi_exit hpre (by assumption) (.inl ⟨by assumption, by omega⟩) | exact fi_exit hpre (by assumption) (.inr (by omega))
    k_steps
    all_goals (refine' end2 hret ?q7a ?q7b ?q7f ?q7n ?q7m ?q7s ?q7l; (case q7f => k_asm); (case q7n => k_asm); (case q7m => k_mem); (case q7s => (first | exact fun _ h => h | exact fun _ h => .tail _ h | exact fun _ h => .tail _ (.tail _ h) | exact fun _ h => .tail _ (.tail _ (.tail _ h)) | exact fun _ h => .tail _ (.tail _ (.tail _ (.tail _ h))) | exact fun _ h => .tail _ (.tail _ (.tail _ (.tail _ (.tail _ h)))) | (intro p9 hp9; repeat (first | exact hp9 | refine List.Mem.tail _ ?_)))); (case q7l => (first | assumption | k_extra "lt" | exact allLt_of (by assumption) | exact And.right (by assumption) | (simp only [AllLt, and_true] at *; first | assumption | exact allLt_of (by assumption) | exact And.right (by assumption) | (simp_all; done)))); (case q7a => (first | exact (by assumption : FX _ _ _ _ _).1 | exact (by assumption : FX _ _ _ _ _).2)); (case q7b => (first | exact (by assumption : FX _ _ _ _ _).1 | exact (by assumption : FX _ _ _ _ _).2))))) only [↓wrap_true]
local macro_rules | `(tactic| walk_at "call ref") => `(tactic| (k_here; (with_reducible show wpAny _ _ (call (Value.ref 535) _) _ _ _); k_dflt (refine' use1 (fours_spec _ _ _ _ _ _ _) ?k1a535c73 ?k2a535c73 ?k3a535c73 ?k4a535c73 ?k5a535c73 ?kKa535c73 ?kda535c73 ?kua535c73 ?kpa535c73 ?_; (case k1a535c73 => k_asm); (case k2a535c73 => k_asm); (case k3a535c73 => k_asm); (case k4a535c73 => k_asm); (case k5a535c73 => k_asm); (case kKa535c73 => first | exact rfl | assumption); (case kda535c73 => first | omega | ktr_room); (case kua535c73 => first | omega | ktr_units); (case kpa535c73 => first | trivial | assumption | omega | (constructor <;> omega) | k_extra "pre")); intro D9 t91 t92 c9 h9 tk9 F9 N9 l9; (try simp only [AllLt, and_true] at l9); (try dsimp only); (try k_sweep); (try k_fold)))

-- A17
-- a comprehension [x for x in TUPLE if x <= y] where y is a cell of the frame's
section
open LCg LCt
theorem tupAt_top0 {K : Frag} {h₀ : Heap} {a : Addr} {l : List Value} {dd : Option Addr} {n : Nat} {sl : Array (Option Value)} {zs : List Int} (X : K.In h₀) (hl : K.lookup a = some ⟨.type "tuple", dd, .seq l.toArray n, sl⟩) (hi : IntsAre l zs) : TupAt h₀ a zs := ⟨l, tupK X hl, hi⟩
theorem take_one {zs : List Int} {i : Nat} (h : i < zs.length) : zs.take (i + 1) = zs.take i ++ [zs.getD i 0] := by
  rw [List.take_add_one, List.getD_eq_getElem?_getD, List.getElem?_eq_getElem h]
  rfl
variable {prog : Program} {wd : World} {A : Around} {E : Value → Shared → Prop} {s : Shared} {h₀ : Heap} {L : Addr} {m : Str → Option Value} {env : Env} {x y : Str} {scope : Scope} {cl : List (Str × Addr)} {zs : List Int} {k : Int} {u : Tok} {c : Addr} {o : Obj} {news : List (Addr × Obj)}
theorem turns_le {p1 p2 p3 p4 : Pos} {Fin : List Value → List (Addr × Obj) → Prop} (hc : cl.lookup y = some c) (hm : (c, o) ∈ news) (hd : o.data = .cell (some (.int k u)))
    (hk : ∀ C, (compEnvC scope cl C env).scope.kind = .function) (hkx : ∀ C, (compEnvC scope cl C env).kindOf x = some .local) (hky : ∀ C, (compEnvC scope cl C env).kindOf y = some .cell) (hbx : (x == ("__debug__" : Str)) = false) (hby : (y == ("__debug__" : Str)) = false) (hbc : (y == ("__classdict__" : Str)) = false)
    (fin : ∀ ys, IntsAre ys (zs.filter fun z => decide (z ≤ k)) → Fin ys news) :
    ∀ (n i : Nat) (ys : List Value), n + i = zs.length → IntsAre ys ((zs.take i).filter fun z => decide (z ≤ k)) →
      CompRestT prog wd A h₀ L m env (.Compare (.Name x p1) [.LtE] [.Name y p2] p3) (.Name x p4) x scope cl s (fun nw => nw = news) (fun i v => ∃ t, v = .int (zs.getD i 0) t) Fin n i ys news
  | 0, i, ys, hi, hy => CompRestT.zero (fin ys (by rw [List.take_of_length_le (by omega)] at hy; exact hy))
  | n + 1, i, ys, hi, hy => CompRestT.succ (by
    rintro v I oI C oC D m₂ h tk E' ⟨t, rfl⟩ hC hx' F' N' off ne
    have tk1 := take_one (zs := zs) (i := i) (by omega)
    refine wpAny_isTrue_Compare1 (LCgL.ld_own N' (.tail _ (.head _)) hC hx' ?_ (hk C) (hkx C) hbx)
    refine lcf_cell N' hc (.tail _ (.tail _ (.tail _ hm))) hd ?_ (hk C) (hky C) hby
    refine PyProof.Rows.le_int (wpAny_truthy_bool ?_)
    by_cases hz : zs.getD i 0 ≤ k
    · rw [decide_eq_true hz, if_pos rfl]
      refine LCgL.ld_own N' (.tail _ (.head _)) hC hx' ?_ (hk C) (hkx C) hbx
      refine CompEnd.intro F' N' news (fun p hp => hp) off rfl (turns_le hc hm hd hk hkx hky hbx hby hbc fin n (i + 1) _ (by omega) ?_)
      rw [tk1, List.filter_append, List.filter_cons, if_pos (by simpa using hz), List.filter_nil]
      exact hy.append (by repeat constructor)
    · rw [decide_eq_false hz, if_neg (by decide)]
      refine CompEnd.intro F' N' news (fun p hp => hp) off rfl (turns_le hc hm hd hk hkx hky hbx hby hbc fin n (i + 1) _ (by omega) ?_)
      rw [tk1, List.filter_append, List.filter_cons, if_neg (by simpa using hz), List.filter_nil, List.append_nil]
      exact hy)
def SrcLe (A : Around) (h₀ : Heap) (L : Addr) (m : Str → Option Value) (c : Addr) (Q : Value → Shared → Prop) (xv : Value) (s₁ : Shared) : Prop :=
  ∃ (t : Addr) (news : List (Addr × Obj)) (o : Obj) (zs : List Int) (k : Int) (u : Tok), xv = .ref t ∧ A.handled = none ∧ Fr h₀ L s₁.heap m ∧ News h₀ L s₁.heap news ∧ TupAt h₀ t zs ∧ (c, o) ∈ news ∧ o.data = .cell (some (.int k u)) ∧ zs.length ≤ 1000 ∧
    ∀ D ys h tk, Fr h₀ L h m → News h₀ L h ((D, lst ys) :: news) → (∀ p ∈ news, p.1 ≠ D) → IntsAre ys (zs.filter fun z => decide (z ≤ k)) → Q (.ref D) { s₁ with heap := h, toks := tk }
theorem srcLe_intro {Q : Value → Shared → Prop} {t : Addr} (hh : A.handled = none) (F : Fr h₀ L s.heap m) (N : News h₀ L s.heap news) (T : TupAt h₀ t zs) (hm : (c, o) ∈ news) (hd : o.data = .cell (some (.int k u))) (hl : zs.length ≤ 1000)
    (h : ∀ D ys h tk, Fr h₀ L h m → News h₀ L h ((D, lst ys) :: news) → (∀ p ∈ news, p.1 ≠ D) → IntsAre ys (zs.filter fun z => decide (z ≤ k)) → Q (.ref D) { s with heap := h, toks := tk }) : SrcLe A h₀ L m c Q (.ref t) s :=
  ⟨t, news, o, zs, k, u, rfl, hh, F, N, T, hm, hd, hl, h⟩
theorem off1_mem {D : Addr} : ∀ {l : List (Addr × Obj)}, Off1 D l → ∀ p ∈ l, p.1 ≠ D
  | [], _, _, h => nomatch h
  | _ :: _, x, p, h => by
    rcases List.mem_cons.mp h with rfl | h
    · exact x.1
    · exact off1_mem x.2 p h
theorem comp_le {iter : Expr} {px p1 p2 p3 p4 pos : Pos} {Q : Value → Shared → Prop} (_F₀ : Fr h₀ L s.heap m)
    (hclos : closureFor scope env = pure cl) (hcell : ∀ y ∈ scope.names, y.2 ≠ .cell) (hkind : scope.kind = .function)
    (hnames : ∀ y ∈ scope.names, y.2 = .local → scope.names.lookup y.1 = some .local) (hx : scope.names.lookup x = some .local)
    (hc : cl.lookup y = some c) (hk : ∀ C, (compEnvC scope cl C env).scope.kind = .function) (hkx : ∀ C, (compEnvC scope cl C env).kindOf x = some .local) (hky : ∀ C, (compEnvC scope cl C env).kindOf y = some .cell) (hbx : (x == ("__debug__" : Str)) = false) (hby : (y == ("__debug__" : Str)) = false) (hbc : (y == ("__classdict__" : Str)) = false)
    (h : wpAny (model prog wd) A (eval iter env) (SrcLe A h₀ L m c Q) E s)
    (hs : ∀ x, foldedSetIterable iter env x = pure x) :
    wpAny (model prog wd) A (eval (.ListComp (.Name x p4) [⟨.Name x px, iter, [.Compare (.Name x p1) [.LtE] [.Name y p2] p3], 0⟩] scope pos) env) Q E s := by
  rw [eval_ListComp]
  refine wpAny_comprehension_free (use := none) rfl hs hclos hkind hnames (wpAny_mono h (fun xv s₁ h₁ => ?_) fun _ _ e => e)
  obtain ⟨t, news, o, zs, k, u, rfl, hh, F, N, ⟨vs, T₀, hi⟩, hm, hd, hsz, fin⟩ := h₁
  have T := T₀.keeps F.keep
  have hl := hi.length
  have hlt : t < s₁.heap.objs.size := by obtain ⟨_, e, _⟩ := T; exact Heap.lt_size e
  refine wpAny_pyIter_tuple T ?_
  have up : ∀ b o, s₁.heap.get? b = some o → (s₁.heap.push { cls := .type "tuple_iterator", data := .fields #[.ref t, .int 0 0] }).get? b = some o := fun b o e => Heap.get?_push_of_some _ e
  have W := Walks.tuple (prog := prog) (w := wd) hh s₁.heap.objs.size t (Nat.ne_of_lt hlt) vs.toArray
  have W2 := walks_mono (P' := fun i v => ∃ t, v = .int (zs.getD i 0) t) W fun i v _ hv => by
    have hv' : vs[i]? = some v := by simpa using hv
    have hlt : i < zs.length := by
      rw [← hl]
      exact (List.getElem?_eq_some_iff.mp hv').1
    obtain ⟨t, e⟩ := ints_at hi hlt
    rw [e] at hv'
    exact ⟨t, (Option.some.inj hv').symm⟩
  have hsz2 : vs.toArray.size = zs.length := by rw [List.size_toArray, hl]
  rw [hsz2] at W2
  refine block_T (S := fun nw => nw = news) (Fin := fun ys nw => nw = news ∧ IntsAre ys (zs.filter fun z => decide (z ≤ k))) W2 (by rw [sizeLine_eq]; omega) (fun i h st => by obtain ⟨o, e, _⟩ := st.1; exact ⟨o, e⟩) ?_ hcell hkind hx ⟨⟨_, Heap.get?_push_size _ rfl, rfl, rfl⟩, T.keeps up⟩ (fun b hb => ?_)
      (F.keeps up) (N.grown up) (Nat.ne_of_lt F.ns.lt) (next_is_new F) (fun p hp => Nat.ne_of_lt (Heap.lt_size (N p hp).1)) rfl (turns_le hc hm hd hk hkx hky hbx hby hbc (fun ys hy => ⟨rfl, hy⟩) zs.length 0 [] rfl (by rw [List.take_zero]; exact .nil)) ?_
  · rintro i h h' o nw st e e' keep _ _
    obtain ⟨⟨o2, e2, q2⟩, _⟩ := st
    rw [e] at e2
    cases e2
    exact ⟨⟨_, e', q2⟩, T₀.keeps keep⟩
  · show b < (s₁.heap.push _).objs.size
    rw [Heap.size_push]
    rcases List.mem_cons.mp hb with rfl | hb
    · exact Nat.lt_succ_self _
    · rw [List.mem_singleton.mp hb]; exact Nat.lt_succ_of_lt hlt
  · intro D C h tk m' ys news' F' N' o1 hn hC₀ hD₀ hCL hDL hCD offC ⟨e, hy⟩
    subst e
    refine ⟨m', hn, fun h'' hs'' => fin D ys h'' tk (F'.change hs'' hCL hC₀) (fun p hp => ?_) (off1_mem o1) hy⟩
    refine ⟨hs''.extBut _ _ ?_ (N' p hp).1, (N' p hp).2⟩
    rcases List.mem_cons.mp hp with rfl | hp
    · exact Ne.symm hCD
    · exact offC p hp
end
def cnt (zs : List Int) (k : Int) : Int := ((zs.filter fun z => decide (z ≤ k)).length : Nat)
section
variable {prog : Program} {wd : World} {A : Around} {E : Value → Shared → Prop} {s : Shared} {h₀ : Heap} {L : Addr} {zs : List Int} {k : Int} {news : List (Addr × Obj)}
theorem len_le {D : Addr} {ys : List Value} {Q : Value → Shared → Prop} (N : News h₀ L s.heap news) (hm : (D, LCg.lst ys) ∈ news) (hi : IntsAre ys (zs.filter fun z => decide (z ≤ k))) (hz : zs.length ≤ 1000)
    (h : Q (.int (cnt zs k) (s.toks + 1)) { s with toks := s.toks + 1 + 1 }) : wpAny (model prog wd) A (call (.builtin "len") [.ref D]) Q E s := by
  have hl := hi.length
  have hf := List.length_filter_le (fun z => decide (z ≤ k)) zs
  have e : ((ys.toArray.size : Nat) : Int) = cnt zs k := by rw [List.size_toArray, hl]; rfl
  refine len_list (News.isList N hm) (by rw [e]; unfold cnt; omega) ?_
  rw [e]
  exact h
end
local macro_rules | `(tactic| walk_at "call builtin:len") => `(tactic| (k_here; (with_reducible show wpAny _ _ (call (Value.builtin "len") [Value.ref _]) _ _ _); k_dflt (refine' len_le ?zo1 ?zo2 ?zo3 ?zo4 ?_; (case zo1 => k_asm); (case zo2 => k_mem); (case zo3 => assumption); (case zo4 => (simp))); (try dsimp only)))
section
variable {M : Model} {A : Around} {E : Value → Shared → Prop} {s : Shared} {h₀ : Heap} {L a : Addr} {cn : Str} {cs : Scope} {ccd : Value} {cl : List (Str × Addr)} {vs : List (Option Value)} {ns : List (Str × NameKind)}
theorem startC {b : List Stmt} {Q : Flow → Shared → Prop} {h h1 : Heap} {k : Nat} {l l' : List (Str × Value)} {kf : Str → Option NameKind} (_hcs : cs.names = ns) (hnd : okN ns = true) (F : Fr h₀ L h (bindL kf l fun _ => none)) (e : bindL kf l (fun _ => none) = bindMap l') (S : Sts ns l' vs)
    (g : okN ns = true → Fr h₀ L h (posMap ns vs) → ∀ tk, wpAny M A (execs b (envX cn cs L a ccd cl)) Q E { s with heap := h1, toks := tk }) : wpAny M A (execs b (envX cn cs L a ccd cl)) Q E { s with heap := h1, toks := k } := by
  rw [e, S.get hnd] at F
  exact g hnd F k
end
local macro_rules | `(tactic| walk_at "SrcLe") => `(tactic| (k_here; k_dflt (refine' srcLe_intro ?zl1 ?zl2 ?zl3 ?zl4 ?zl5 ?zl6 ?zl7 ?_; (case zl1 => with_unfolding_all exact rfl); (case zl2 => k_asm); (case zl3 => k_asm); (case zl4 => exact tupAt_top0 (by k_asm) (by k_is) (by repeat constructor)); (case zl5 => k_mem); (case zl6 => k_asm); (case zl7 => (simp))); intro D9 ys9 h9 tk9 F9 N9 o9 i9; (try k_sweep); (try dsimp only)))
local macro_rules | `(tactic| walk_at "eval ListComp") => `(tactic| (k_here; k_dflt (refine' comp_le ?zc1 ?zc2 ?zc3 ?zc4 ?zc5 ?zc6 ?zc7 ?zc8 ?zc9 ?zca ?zcb ?zcc ?zcd ?_ ?zce; (case zc1 => k_asm); (case zc2 => with_unfolding_all rfl); (case zc3 => decide); (case zc4 => rfl); (case zc5 => decide); (case zc6 => rfl); (case zc7 => rfl); (case zc8 => (intro _; first | rfl | with_unfolding_all rfl)); (case zc9 => (intro _; first | rfl | with_unfolding_all rfl)); (case zca => (intro _; first | rfl | with_unfolding_all rfl)); (case zcb => decide); (case zcc => decide); (case zcd => decide); (case zce => (intro _; with_unfolding_all rfl))); (try k_fold)))
theorem allNe_a {d : Addr} {l : List (Addr × Obj)} (h : ∀ p ∈ l, p.1 < d) : ∀ p ∈ l, p.1 ≠ d + 1 := fun p hp => Nat.ne_of_lt (Nat.lt_succ_of_lt (h p hp))
theorem allLt_mem {d : Addr} : ∀ {l : List (Addr × Obj)}, AllLt d l → ∀ p ∈ l, p.1 < d
  | [], _, _, h => nomatch h
  | _ :: _, x, p, h => by
    rcases List.mem_cons.mp h with rfl | h
    · exact x.1
    · exact allLt_mem x.2 p h
theorem allNe_b {d : Addr} {l : List (Addr × Obj)} (h : AllLt d l) : ∀ p ∈ l, p.1 ≠ d + 1 := allNe_a (allLt_mem h)
local macro_rules | `(tactic| k_all) => `(tactic| first | exact allNe_a (by assumption) | exact allNe_b (by assumption))
local macro_rules | `(tactic| walk_at "call builtin:divmod") => `(tactic| (k_here; (with_reducible show wpAny _ _ (call (Value.builtin _) [Value.int _ _, Value.int _ _]) _ _ _); k_dflt (refine' divmod_lit ?zdF ?zdN ?zdB ?_; (case zdF => k_asm); (case zdN => k_asm); (case zdB => first | decide | omega)); intro D9 h9 F9 N9 l9; (try k_lt l9); (try k_sweep); (try dsimp only)))
theorem cnt_emb {r : Int} (h0 : 0 ≤ r) (h1 : r ≤ 18) : cnt [3, 6, 8, 11, 14, 17, 19] r = (7 * r + 1) / 19 := by
  have h : r = 0 ∨ r = 1 ∨ r = 2 ∨ r = 3 ∨ r = 4 ∨ r = 5 ∨ r = 6 ∨ r = 7 ∨ r = 8 ∨ r = 9 ∨ r = 10 ∨ r = 11 ∨ r = 12 ∨ r = 13 ∨ r = 14 ∨ r = 15 ∨ r = 16 ∨ r = 17 ∨ r = 18 := by omega
  rcases h with h | h | h | h | h | h | h | h | h | h | h | h | h | h | h | h | h | h | h <;> subst h <;> decide
abbrev tm (y : Int) : Int := 235 * ((y - 1) / 19) + 12 * ((y - 1) % 19) + cnt [3, 6, 8, 11, 14, 17, 19] ((y - 1) % 19)
abbrev tD (y : Int) : Int := (31524 + 765433 * tm y) / 25920
abbrev tP (y : Int) : Int := (31524 + 765433 * tm y) % 25920
theorem tm_eq (y : Int) : tm y = hmo y := by
  show 235 * ((y - 1) / 19) + 12 * ((y - 1) % 19) + cnt [3, 6, 8, 11, 14, 17, 19] ((y - 1) % 19) = (235 * y - 234) / 19
  rw [cnt_emb (by omega) (by omega)]
  omega
theorem tish_dp (y : Int) : (hrem y < 6480 ∧ tD y = hd0 y ∧ tP y = hrem y + 19440) ∨ (6480 ≤ hrem y ∧ tD y = hd0 y + 1 ∧ tP y = hrem y - 6480) := by
  unfold tD tP hrem hd0
  rw [tm_eq]
  generalize hmo y = m
  omega
def tdd (y : Int) : Int := if 19440 ≤ tP y then tD y + 1 else if tD y % 7 = 2 ∧ 9924 ≤ tP y ∧ ¬ hlp y then tD y + 1 else if tD y % 7 = 1 ∧ 16789 ≤ tP y ∧ hlp (y - 1) then tD y + 1 else tD y
theorem n19 {r : Int} (h0 : 0 ≤ r) (h1 : r ≤ 18) : r = 0 ∨ r = 1 ∨ r = 2 ∨ r = 3 ∨ r = 4 ∨ r = 5 ∨ r = 6 ∨ r = 7 ∨ r = 8 ∨ r = 9 ∨ r = 10 ∨ r = 11 ∨ r = 12 ∨ r = 13 ∨ r = 14 ∨ r = 15 ∨ r = 16 ∨ r = 17 ∨ r = 18 := by omega
theorem hlp_r (y : Int) : hlp y ↔ (7 * ((y - 1) % 19) + 8) % 19 < 7 := by
  unfold hlp
  rw [show y * 7 + 1 = 7 * ((y - 1) % 19) + 8 + 19 * (7 * ((y - 1) / 19)) by omega, Int.add_mul_emod_self_left]
theorem hlp_s (y : Int) : hlp (y - 1) ↔ (7 * ((y - 1) % 19) + 1) % 19 < 7 := by
  unfold hlp
  rw [show (y - 1) * 7 + 1 = 7 * ((y - 1) % 19) + 1 + 19 * (7 * ((y - 1) / 19)) by omega, Int.add_mul_emod_self_left]
theorem emb_r {r : Int} (h0 : 0 ≤ r) (h1 : r ≤ 18) : (7 * r + 8) % 19 < 7 ↔ (r + 1 = 3 ∨ r + 1 = 6 ∨ r + 1 = 8 ∨ r + 1 = 11 ∨ r + 1 = 14 ∨ r + 1 = 17 ∨ r + 1 = 19) := by
  rcases n19 h0 h1 with h | h | h | h | h | h | h | h | h | h | h | h | h | h | h | h | h | h | h <;> subst h <;> decide
theorem emb_s {r : Int} (h0 : 0 ≤ r) (h1 : r ≤ 18) : (7 * r + 1) % 19 < 7 ↔ (r = 0 ∨ r = 3 ∨ r = 6 ∨ r = 8 ∨ r = 11 ∨ r = 14 ∨ r = 17 ∨ r = 19) := by
  rcases n19 h0 h1 with h | h | h | h | h | h | h | h | h | h | h | h | h | h | h | h | h | h | h <;> subst h <;> decide
theorem hlp_e (y : Int) : hlp y ↔ ((y - 1) % 19 + 1 = 3 ∨ (y - 1) % 19 + 1 = 6 ∨ (y - 1) % 19 + 1 = 8 ∨ (y - 1) % 19 + 1 = 11 ∨ (y - 1) % 19 + 1 = 14 ∨ (y - 1) % 19 + 1 = 17 ∨ (y - 1) % 19 + 1 = 19) := (hlp_r y).trans (emb_r (by omega) (by omega))
theorem hlp_f (y : Int) : hlp (y - 1) ↔ ((y - 1) % 19 = 0 ∨ (y - 1) % 19 = 3 ∨ (y - 1) % 19 = 6 ∨ (y - 1) % 19 = 8 ∨ (y - 1) % 19 = 11 ∨ (y - 1) % 19 = 14 ∨ (y - 1) % 19 = 17 ∨ (y - 1) % 19 = 19) := (hlp_s y).trans (emb_s (by omega) (by omega))
theorem tdd_a {y : Int} (h : 19440 ≤ tP y) : tD y + 1 = tdd y := (if_pos h).symm
theorem tdd_b {y : Int} (h : ¬ 19440 ≤ tP y) (h1 : tD y % 7 = 2) (h2 : 9924 ≤ tP y) (h3 : ¬ (y - 1) % 19 + 1 = 3 ∧ ¬ (y - 1) % 19 + 1 = 6 ∧ ¬ (y - 1) % 19 + 1 = 8 ∧ ¬ (y - 1) % 19 + 1 = 11 ∧ ¬ (y - 1) % 19 + 1 = 14 ∧ ¬ (y - 1) % 19 + 1 = 17 ∧ ¬ (y - 1) % 19 + 1 = 19) : tD y + 1 = tdd y := by
  have : ¬ hlp y := by rw [hlp_e]; obtain ⟨a1, a2, a3, a4, a5, a6, a7⟩ := h3; simp only [a1, a2, a3, a4, a5, a6, a7, or_self, not_false_eq_true]
  rw [tdd, if_neg h, if_pos ⟨h1, h2, this⟩]
theorem tdd_c {y : Int} (h : ¬ 19440 ≤ tP y) (h1 : tD y % 7 = 1) (h2 : 16789 ≤ tP y) (h3 : hlp (y - 1)) : tD y + 1 = tdd y := by
  have e : ¬ (tD y % 7 = 2 ∧ 9924 ≤ tP y ∧ ¬ hlp y) := fun e => by rw [h1] at e; exact absurd e.1 (by decide)
  rw [tdd, if_neg h, if_neg e, if_pos ⟨h1, h2, h3⟩]
theorem hlp_a {y : Int} (h : (y - 1) % 19 = 0) : hlp (y - 1) := (hlp_f y).mpr (.inl h)
theorem hlp_b {y : Int} (h : (y - 1) % 19 = 3 ∨ (y - 1) % 19 = 6 ∨ (y - 1) % 19 = 8 ∨ (y - 1) % 19 = 11 ∨ (y - 1) % 19 = 14 ∨ (y - 1) % 19 = 17 ∨ (y - 1) % 19 = 19) : hlp (y - 1) := (hlp_f y).mpr (.inr h)
theorem tdd_d {y : Int} (h : ¬ 19440 ≤ tP y) (n1 : tD y % 7 ≠ 2 ∨ ¬ 9924 ≤ tP y ∨ ((y - 1) % 19 + 1 = 3 ∨ (y - 1) % 19 + 1 = 6 ∨ (y - 1) % 19 + 1 = 8 ∨ (y - 1) % 19 + 1 = 11 ∨ (y - 1) % 19 + 1 = 14 ∨ (y - 1) % 19 + 1 = 17 ∨ (y - 1) % 19 + 1 = 19))
    (n2 : tD y % 7 ≠ 1 ∨ ¬ 16789 ≤ tP y ∨ ((y - 1) % 19 ≠ 0 ∧ (¬ (y - 1) % 19 = 3 ∧ ¬ (y - 1) % 19 = 6 ∧ ¬ (y - 1) % 19 = 8 ∧ ¬ (y - 1) % 19 = 11 ∧ ¬ (y - 1) % 19 = 14 ∧ ¬ (y - 1) % 19 = 17 ∧ ¬ (y - 1) % 19 = 19))) : tD y = tdd y := by
  have e1 : ¬ (tD y % 7 = 2 ∧ 9924 ≤ tP y ∧ ¬ hlp y) := by
    rintro ⟨a, b, c⟩
    rcases n1 with n | n | n
    · exact n a
    · exact n b
    · exact c ((hlp_e y).mpr n)
  have e2 : ¬ (tD y % 7 = 1 ∧ 16789 ≤ tP y ∧ hlp (y - 1)) := by
    rintro ⟨a, b, c⟩
    rcases n2 with n | n | n
    · exact n a
    · exact n b
    · rw [hlp_f] at c; obtain ⟨a0, a1, a2, a3, a4, a5, a6, a7⟩ := n; simp only [a0, a1, a2, a3, a4, a5, a6, a7, or_self] at c
  rw [tdd, if_neg h, if_neg e1, if_neg e2]
theorem tdd_x {y : Int} {P : Prop} (h : tD y % 7 = 2) (h2 : tD y % 7 = 1) : P := absurd (h.symm.trans h2) (by decide)
theorem tish_num {D r k k2 D' P' t : Int} {A B : Prop} [Decidable A] [Decidable B] (hr : 0 ≤ r ∧ r < 25920) (a : (r < 6480 ∧ D' = D ∧ P' = r + 19440) ∨ (6480 ≤ r ∧ D' = D + 1 ∧ P' = r - 6480))
    (b : (k2 = 2 ∧ ¬ A ∧ (D + 1) % 7 = 2 ∧ 16404 ≤ r) ∨ (k2 = 1 ∧ B ∧ (D + 1) % 7 = 1 ∧ 23269 ≤ r ∧ ¬ (¬ A ∧ (D + 1) % 7 = 2 ∧ 16404 ≤ r)) ∨ (k2 = 0 ∧ ¬ (¬ A ∧ (D + 1) % 7 = 2 ∧ 16404 ≤ r) ∧ ¬ (B ∧ (D + 1) % 7 = 1 ∧ 23269 ≤ r)))
    (c : (k = 1 ∧ ((D + 1) % 7 = 0 ∨ (D + 1) % 7 = 3 ∨ (D + 1) % 7 = 5)) ∨ (k = 0 ∧ ((D + 1) % 7 = 1 ∨ (D + 1) % 7 = 2 ∨ (D + 1) % 7 = 4 ∨ (D + 1) % 7 = 6)))
    (ht : t = if 19440 ≤ P' then D' + 1 else if D' % 7 = 2 ∧ 9924 ≤ P' ∧ ¬ A then D' + 1 else if D' % 7 = 1 ∧ 16789 ≤ P' ∧ B then D' + 1 else D') :
    ((t % 7 = 0 ∨ t % 7 = 3 ∨ t % 7 = 5) ∧ t = D + k + k2) ∨ ((¬ t % 7 = 0 ∧ ¬ t % 7 = 3 ∧ ¬ t % 7 = 5) ∧ t = D + k + k2 + 1) := by
  by_cases hA : A <;> by_cases hB : B <;> simp only [hA, hB, not_true_eq_false, not_false_eq_true, and_true, and_false, true_and, false_and, if_false, false_or] at b ht <;> rcases a with ⟨a1, a2, a3⟩ | ⟨a1, a2, a3⟩ <;> subst a2 <;> subst a3 <;> first | (rw [if_pos (by omega)] at ht; omega) | (rw [if_neg (by omega)] at ht; (repeat' split at ht) <;> omega)
theorem tish_sum (y : Int) : ((tdd y % 7 = 0 ∨ tdd y % 7 = 3 ∨ tdd y % 7 = 5) ∧ 347998 + tdd y = hT y) ∨ ((¬ tdd y % 7 = 0 ∧ ¬ tdd y % 7 = 3 ∧ ¬ tdd y % 7 = 5) ∧ 347997 + tdd y = hT y) := by
  have e : hT y = 347998 + hd1 y + hd2 y := by unfold hT; omega
  have q := tish_num (t := tdd y) (by unfold hrem; omega) (tish_dp y) (hd2_cases y) (hc_cases (hd0 y)) rfl
  have d := hd1_c y
  rcases q with ⟨q1, q2⟩ | ⟨q1, q2⟩
  · exact .inl ⟨q1, by omega⟩
  · exact .inr ⟨q1, by omega⟩
theorem tis_a {y : Int} (h : tdd y % 7 = 0 ∨ tdd y % 7 = 3 ∨ tdd y % 7 = 5) : 347997 + (tdd y + 1) = hT y := by have := tish_sum y; omega
theorem tis_b {y : Int} (h : ¬ tdd y % 7 = 0 ∧ ¬ tdd y % 7 = 3 ∧ ¬ tdd y % 7 = 5) : 347997 + tdd y = hT y := by have := tish_sum y; omega
theorem tishri_spec (news) (y : Int) (t1 : Tok) : Call1 w loose mean mg mb 1 540 news [.int y t1] True (RetI (hT y)) := by
  refine unwrap ?_
  simp (disch := k_dflt (
    k_with_none
    k_with "gl" => first | exact gl_law_embolic _
    k_with "gb" => first | exact gb_divmod _ | exact gb_len _
    dsimp only [Call1]
    intro dp un gd cn cs aF ccd cl outer A₀ base h₀ L mp s Q E B F X N T hk hdp hun hpre hret
    refine wpAny_call ?_
    k_dflt (refine' code_defC ?k1 ?k2 ?k3 ?k4 ?k5 ?kA ?kF ?kK ?k6 ?k7 ?k8 ?k9 ?kB ?kD ?_ ?c2 ?c3 ?c4; (case kA => exact rfl); (case kF => exact rfl); (case kK => assumption); (case k1 => k_asm); (case k2 => k_asm); (case k3 => k_asm); (case k4 => k_asm); (case k5 => k_asm); (case k6 => k_is); (case k7 => k_is); (case k8 => ktr_room); (case k9 => first | exact BindsTo.of_eq rfl | exact binds_K (by k_in) rfl (by k_is) rfl rfl rfl); (case kB => exact rfl); (case kD => decide +kernel); (case c2 => exact rfl); (case c3 => exact rfl); (case c4 => exact rfl); k_whole; intro g' L' h' tk' cells' FG' F' N' Y' B' X' T' l1; (try k_lt l1); k_cells Y'; (try simp only [List.cons_append, List.nil_append] at N'); (try dsimp only); (try k_lift B'); (try k_fold))
    (rename Fr _ _ _ _ => FE)
    (refine' startC (l' := [(Str.ofString "year", .int y t1)]) ?cs ?nd FE ?e ?S ?_)
    (case cs => (first | (dsimp only; done) | rfl))
    (case nd => kernel_rfl!)
    (case e => kernel_rfl!)
    (case S => with_reducible (apply Sts.cons; apply Sts.nil; (repeat (first | exact Nones.nil | apply Nones.cons)); (all_goals (repeat (first | exact St.here | apply St.there)))))
    (clear FE; intro hnd FE tk0; (try k_fold))
    k_with "cut" => ((with_reducible show wpAny _ _ (execs (Stmt.If _ _ _ ⟨679, _, _, _⟩ :: _) _) _ _ _); (rename Fr _ _ _ _ => zF); (rename News _ _ _ _ => zN); k_dflt (refine' cut1 "days" (tdd y) (by assumption) zF zN ?zs1 ?_ ?_); (case zs1 => (intro t; with_reducible (repeat (first | exact St.here | apply St.there)))); (all_goals (intros; (try k_sweep); (try k_fold))))
    k_with "cuteq" => with_reducible first | exact tdd_x (by assumption) (by assumption) | exact tdd_a (by assumption) | exact tdd_b (by assumption) (by assumption) (by assumption) (by assumption) | exact tdd_c (by assumption) (by assumption) (by assumption) (hlp_a (by assumption)) | exact tdd_c (by assumption) (by assumption) (by assumption) (hlp_b (by assumption)) | exact tdd_d (by assumption) (by first | exact .inl (by assumption) | exact .inr (.inl (by assumption)) | exact .inr (.inr (by assumption))) (by first | exact .inl (by assumption) | exact .inr (.inl (by assumption)) | exact .inr (.inr ⟨by assumption, by assumption⟩))
    k_steps
    all_goals (refine' endI hret ?q7a ?q7f ?q7n ?q7s; (case q7f => k_asm); (case q7n => k_asm); (case q7s => (first | exact fun _ h => h | exact fun _ h => .tail _ h | exact fun _ h => .tail _ (.tail _ h) | exact fun _ h => .tail _ (.tail _ (.tail _ h)) | exact fun _ h => .tail _ (.tail _ (.tail _ (.tail _ h))) | exact fun _ h => .tail _ (.tail _ (.tail _ (.tail _ (.tail _ h)))) | (intro p9 hp9; repeat (first | exact hp9 | refine List.Mem.tail _ ?_)))); (case q7a => (with_reducible first | exact tis_a (by assumption) | exact tis_b (by assumption)))))) only [↓wrap_true]
local macro_rules | `(tactic| walk_at "call ref") => `(tactic| (k_here; (with_reducible show wpAny _ _ (call (Value.ref 540) _) _ _ _); k_dflt (refine' use1 (tishri_spec _ _ _) ?k1a540c74 ?k2a540c74 ?k3a540c74 ?k4a540c74 ?k5a540c74 ?kKa540c74 ?kda540c74 ?kua540c74 ?kpa540c74 ?_; (case k1a540c74 => k_asm); (case k2a540c74 => k_asm); (case k3a540c74 => k_asm); (case k4a540c74 => k_asm); (case k5a540c74 => k_asm); (case kKa540c74 => first | exact rfl | assumption); (case kda540c74 => first | omega | ktr_room); (case kua540c74 => first | omega | ktr_units); (case kpa540c74 => first | trivial | assumption | omega | (constructor <;> omega) | k_extra "pre")); intro t9 h9 tk9 F9 N9; (try dsimp only); (try k_sweep); (try k_fold)))

-- A18
-- the law's helper hebrew
section
variable {prog : Program} {wd : World} {A : Around} {E : Value → Shared → Prop} {s : Shared} {h₀ : Heap} {L : Addr} {news : List (Addr × Obj)}
inductive TabAt (h : Heap) : List Value → List Int → List Int → Prop where
  | nil : TabAt h [] [] []
  | cons {d : Addr} {a b : Int} {vs : List Value} {ms ls : List Int} : TupAt h d [a, b] → TabAt h vs ms ls → TabAt h (.ref d :: vs) (a :: ms) (b :: ls)
theorem TabAt.get {h : Heap} {vs : List Value} {ms ls : List Int} (x : TabAt h vs ms ls) : ∀ k : Nat, k < ls.length → ∃ d, vs[k]? = some (.ref d) ∧ TupAt h d [ms.getD k 0, ls.getD k 0] := by
  induction x with
  | nil => intro k hk; simp at hk
  | @cons d a b vs ms ls t _ ih =>
    intro k hk
    cases k with
    | zero => exact ⟨d, rfl, t⟩
    | succ k =>
      obtain ⟨d', e, t'⟩ := ih k (by simpa using hk)
      exact ⟨d', by simpa using e, by simpa using t'⟩
theorem sub_tab {value slice : Expr} {D : Addr} {vs : List Value} {c : Nat} {ms ls : List Int} {k : Int} {u : Tok} {Q : Value → Shared → Prop} (N : News h₀ L s.heap news) (hm : (D, ({ cls := .type "list", data := .seq vs.toArray c } : Obj)) ∈ news) (ht : TabAt s.heap vs ms ls) (hk : 0 ≤ k ∧ k < ls.length ∧ k < 2 ^ 62)
    (h : ∀ d, TupAt s.heap d [ms.getD k.toNat 0, ls.getD k.toNat 0] → Q (.ref d) s)
    (hs : subscripted slice false (.ref D) (.int k u) = operate [.ref D, .int k u] (getItem (.ref D) (.int k u)) := by with_unfolding_all rfl) :
    wpAny (model prog wd) A (subscriptTail value slice (.ref D) (.int k u)) Q E s := by
  obtain ⟨d, e, t⟩ := ht.get k.toNat (by omega)
  have T : s.heap.IsList D vs.toArray := ⟨_, N.get hm, rfl, c, rfl⟩
  exact tail_any T.typeIs slot_list_getitem.lookup (wpAny_getItem_list T (by omega) (by omega) (by simpa using e) (h d t)) hs
theorem sub_pair0 {value slice : Expr} {t : Addr} {a b : Int} {u : Tok} {Q : Value → Shared → Prop} (ht : TupAt s.heap t [a, b]) (h : ∀ v, Q (.int a v) s)
    (hs : subscripted slice false (.ref t) (.int 0 u) = operate [.ref t, .int 0 u] (getItem (.ref t) (.int 0 u)) := by with_unfolding_all rfl) : wpAny (model prog wd) A (subscriptTail value slice (.ref t) (.int 0 u)) Q E s := sub_tupAt ht ⟨by decide, by simp, by decide⟩ h hs
theorem sub_pair1 {value slice : Expr} {t : Addr} {a b : Int} {u : Tok} {Q : Value → Shared → Prop} (ht : TupAt s.heap t [a, b]) (h : ∀ v, Q (.int b v) s)
    (hs : subscripted slice false (.ref t) (.int 1 u) = operate [.ref t, .int 1 u] (getItem (.ref t) (.int 1 u)) := by with_unfolding_all rfl) : wpAny (model prog wd) A (subscriptTail value slice (.ref t) (.int 1 u)) Q E s := sub_tupAt ht ⟨by decide, by simp, by decide⟩ h hs
end
local macro_rules | `(tactic| walk_at "subscriptTail Name Name ref int") => `(tactic| (k_here; k_extra "sub tab"))
local macro_rules | `(tactic| walk_at "subscriptTail Subscript Name Name Constant ref int") => `(tactic| (k_here; (with_reducible show wpAny _ _ (subscriptTail _ _ (Value.ref _) (Value.int 1 _)) _ _ _); k_dflt (refine' sub_pair1 ?zpT ?_ ?zpS; (case zpT => with_reducible assumption); (case zpS => with_unfolding_all rfl)); intro v9))
local macro_rules | `(tactic| walk_at "subscriptTail Subscript Name Name Constant ref int") => `(tactic| (k_here; (with_reducible show wpAny _ _ (subscriptTail _ _ (Value.ref _) (Value.int 0 _)) _ _ _); k_dflt (refine' sub_pair0 ?zpU ?_ ?zpV; (case zpU => with_reducible assumption); (case zpV => with_unfolding_all rfl)); intro v9))
theorem ifexp_ints {M : Model} {A : Around} {E : Value → Shared → Prop} {s : Shared} {env : Env} {test : Expr} {a c : Int} {k1 k2 : Nat} {p1 p2 pos : Pos} {Q : Value → Shared → Prop}
    (h : wpAny M A (isTrue test env (eval test env)) (fun b s₁ => Q (.int (if b = true then a else c) s₁.toks) { s₁ with toks := s₁.toks + 1 }) E s) :
    wpAny M A (eval (.IfExp test (.Constant (.int a) k1 p1) (.Constant (.int c) k2 p2) pos) env) Q E s := by
  refine wpAny_IfExp (wpAny_mono h (fun b s₁ h₁ => ?_) fun _ _ x => x)
  cases b with
  | true => exact wpAny_Constant_int h₁
  | false => exact wpAny_Constant_int h₁
local macro_rules | `(tactic| walk_at "eval IfExp") => `(tactic| (k_here; (with_reducible show wpAny _ _ (eval (Expr.IfExp _ (Expr.Constant (Const.int _) _ _) (Expr.Constant (Const.int _) _ _) _) _) _ _ _); (refine ifexp_ints ?_); (try dsimp only)))
theorem hT_one : hT 1 = 347998 := by decide
abbrev HL1 (f y : Int) : Prop := f = hT y ∧ 1 ≤ y
abbrev HE1 (n f y : Int) : Prop := f = hT y ∧ 1 ≤ y ∧ hT y ≤ n
abbrev HL2 (n y f l : Int) : Prop := f = hT y ∧ l = hT (y + 1) ∧ 1 ≤ y ∧ hT y ≤ n
abbrev HE2 (n y f l : Int) : Prop := y = hYr n ∧ f = hT y ∧ l = hT (y + 1) ∧ hT y ≤ n ∧ n < hT (y + 1)
theorem hl1_start {n : Int} (h : 347998 ≤ n) : HL1 (hT ((n - 347998) * 25920 / 765433 * 19 / 235 + 1)) ((n - 347998) * 25920 / 765433 * 19 / 235 + 1) := ⟨rfl, by omega⟩
theorem hl1_turn {n f y : Int} (hn : 347998 ≤ n) (q : HL1 f y) (h : n < f) : HL1 (hT (y - 1)) (y - 1) := by
  obtain ⟨rfl, q2⟩ := q
  refine ⟨rfl, ?_⟩
  have : y ≠ 1 := by rintro rfl; rw [hT_one] at h; omega
  omega
theorem hl1_exit {n f y : Int} (q : HL1 f y) (h : ¬ n < f) : HE1 n f y := ⟨q.1, q.2, by have := q.1; omega⟩
theorem hl2_start {n f y : Int} (q : HE1 n f y) : HL2 n y f (hT (y + 1)) := ⟨q.1, rfl, q.2.1, q.2.2⟩
theorem hl2_turn {n y f l : Int} (q : HL2 n y f l) (h : l ≤ n) : HL2 n (y + 1) l (hT (y + 1 + 1)) := ⟨q.2.1, rfl, by have := q.2.2.1; omega, by rw [← q.2.1]; exact h⟩
theorem hl2_exit {n y f l : Int} (q : HL2 n y f l) (h : ¬ l ≤ n) : HE2 n y f l := by
  obtain ⟨q1, q2, q3, q4⟩ := q
  exact ⟨hYr_eq q4 (by omega), q1, q2, q4, by omega⟩
theorem hl2_meas {n y f l : Int} (q : HL2 n y f l) (h : l ≤ n) : (n + 1 - hT (y + 1 + 1)).toNat < (n + 1 - l).toNat := by
  obtain ⟨q1, q2, q3, q4⟩ := q
  have := hT_next (y + 1)
  have := hyd_pos (y + 1)
  omega
def hlsY (y : Int) : List Int := [30, if ((hT (y + 1) - hT y) % 10 == 5) = true then 30 else 29, if ((hT (y + 1) - hT y) % 10 == 3) = true then 29 else 30, 29, 30] ++ (if 360 < hT (y + 1) - hT y then [30, 29] else [29]) ++ [30, 29, 30, 29, 30, 29]
def hmnY (y : Int) : List Int := [7, 8, 9, 10, 11] ++ (if 360 < hT (y + 1) - hT y then [12, 13] else [12]) ++ [1, 2, 3, 4, 5, 6]
abbrev HI9 (n c i : Int) : Prop := TInv (hlsY (hYr n)) (n - hT (hYr n)) c (i + 1)
abbrev HE9 (n c i : Int) : Prop := thr (hlsY (hYr n)) 1 (n - hT (hYr n)) = (i + 1, c)
theorem hls_sum (y : Int) : (hlsY y).sum = hT (y + 1) - hT y := by
  have a := hsum_year y
  have b := hsum_16 y
  have c := hsum_76 y
  have d : hsum y 7 5 = 89 + hml y 8 + hml y 9 := by
    have := hsum_76 y
    rw [hsum] at this
    simp at this
    omega
  have e : hyd y = hT (y + 1) - hT y := rfl
  have e8 : (if ((hT (y + 1) - hT y) % 10 == 5) = true then (30 : Int) else 29) = hml y 8 := by rw [hml_8]; unfold hyd; simp
  have e9 : (if ((hT (y + 1) - hT y) % 10 == 3) = true then (29 : Int) else 30) = hml y 9 := by rw [hml_9]; unfold hyd; simp
  unfold hlsY
  rw [e8, e9]
  rcases hyd_in y with ⟨p, r⟩ | ⟨p, r⟩
  · rw [if_neg (by omega)]
    have hm : hms y = 12 := if_neg p
    rw [hm] at a
    have a' : hsum y 7 6 + hsum y 1 6 = hyd y := a
    have h12 : hml y 12 = 29 := by rw [hml_12, if_pos p]
    simp
    omega
  · rw [if_pos (by omega)]
    have hm : hms y = 13 := if_pos p
    rw [hm] at a
    have a' : hsum y 7 7 + hsum y 1 6 = hyd y := a
    have h7 : hsum y 7 7 = hsum y 7 6 + hml y 13 := by rw [hsum]; rfl
    have h12 : hml y 12 = 30 := by rw [hml_12, if_neg (fun h => h p)]
    have h13 := hml_fix y
    simp
    omega
theorem hi9_start {n y f l : Int} (q : HE2 n y f l) : HI9 n (n - f) 0 := by
  obtain ⟨rfl, rfl, rfl, q4, q5⟩ := q
  exact tinv_start ⟨by omega, by rw [hls_sum]; omega⟩
theorem hls_a {n y f l : Int} (q : HE2 n y f l) (h : 360 < l - f) : hlsY (hYr n) = [30, if ((l - f) % 10 == 5) = true then 30 else 29, if ((l - f) % 10 == 3) = true then 29 else 30, 29, 30, 30, 29, 30, 29, 30, 29, 30, 29] := by
  obtain ⟨rfl, rfl, rfl, q4, q5⟩ := q
  rw [hlsY, if_pos h]; rfl
theorem hls_b {n y f l : Int} (q : HE2 n y f l) (h : ¬ 360 < l - f) : hlsY (hYr n) = [30, if ((l - f) % 10 == 5) = true then 30 else 29, if ((l - f) % 10 == 3) = true then 29 else 30, 29, 30, 29, 30, 29, 30, 29, 30, 29] := by
  obtain ⟨rfl, rfl, rfl, q4, q5⟩ := q
  rw [hlsY, if_neg h]; rfl
theorem hmn_a {n y f l : Int} (q : HE2 n y f l) (h : 360 < l - f) : hmnY (hYr n) = [7, 8, 9, 10, 11, 12, 13, 1, 2, 3, 4, 5, 6] := by
  obtain ⟨rfl, rfl, rfl, q4, q5⟩ := q
  rw [hmnY, if_pos h]; rfl
theorem hmn_b {n y f l : Int} (q : HE2 n y f l) (h : ¬ 360 < l - f) : hmnY (hYr n) = [7, 8, 9, 10, 11, 12, 1, 2, 3, 4, 5, 6] := by
  obtain ⟨rfl, rfl, rfl, q4, q5⟩ := q
  rw [hmnY, if_neg h]; rfl
theorem hls_len (y : Int) : (hlsY y).length ≤ 13 := by by_cases h : 360 < hT (y + 1) - hT y <;> simp [hlsY, h]
theorem hi9_in {n c i : Int} (q : HI9 n c i) : 0 ≤ i ∧ i < (hlsY (hYr n)).length ∧ i < 2 ^ 62 := by
  have := hls_len (hYr n)
  obtain ⟨q1, q2, _⟩ := q
  omega
theorem he9_in {n y f l c i : Int} (q : HE2 n y f l) (e : HE9 n c i) : 0 ≤ i ∧ i < (hlsY (hYr n)).length ∧ i < 2 ^ 62 := by
  have := hls_len (hYr n)
  obtain ⟨rfl, rfl, rfl, q4, q5⟩ := q
  obtain ⟨k, a1, a2, _⟩ := thr_at (hlsY (hYr n)) 1 (n - hT (hYr n)) (by omega) (by rw [hls_sum]; omega)
  rw [e] at a2
  dsimp only at a2
  omega
theorem hi9_lt {n c i : Int} (q : HI9 n c i) : 0 ≤ i ∧ i < 13 := by have := hls_len (hYr n); have := hi9_in q; omega
theorem hi9_turn {n c i : Int} (q : HI9 n c i) (h : (hlsY (hYr n)).getD i.toNat 0 ≤ c) : HI9 n (c - (hlsY (hYr n)).getD i.toNat 0) (i + 1) := by
  have e : (i + 1 - 1).toNat = i.toNat := by omega
  have := tinv_turn q (by rw [e]; exact h)
  rw [e] at this
  exact this
theorem hi9_exit {n c i : Int} (q : HI9 n c i) (h : ¬ (hlsY (hYr n)).getD i.toNat 0 ≤ c) : HE9 n c i := by
  have e : (i + 1 - 1).toNat = i.toNat := by omega
  exact tinv_exit q (by rw [e]; omega)
theorem hj_d (y m d : Int) : hj y m d = hj y m 1 + d - 1 := by unfold hj; split <;> omega
theorem hj_nhi {y m : Int} (h : 7 ≤ m) : hj y (m + 1) 1 = hj y m 1 + hml y m := by have := hj_last_hi (y := y) h; rw [hj_d] at this; omega
theorem hj_nlo {y m : Int} (h1 : 1 ≤ m) (h : m < 6) : hj y (m + 1) 1 = hj y m 1 + hml y m := by have := hj_last_lo (y := y) h1 h; rw [hj_d] at this; omega
theorem hj_none (y : Int) : hj y 1 1 = hj y (hms y) 1 + hml y (hms y) := by have := hj_last_hms y; rw [hj_d] at this; omega
theorem hj_tab (y : Int) : hj y 7 1 = hT y ∧ hj y 8 1 = hT y + 30 ∧ hj y 9 1 = hT y + 30 + hml y 8 ∧ hj y 10 1 = hT y + 30 + hml y 8 + hml y 9 ∧ hj y 11 1 = hT y + 59 + hml y 8 + hml y 9 ∧ hj y 12 1 = hT y + 89 + hml y 8 + hml y 9 ∧
    hj y 13 1 = hT y + 89 + hml y 8 + hml y 9 + hml y 12 ∧ hj y 2 1 = hj y 1 1 + 30 ∧ hj y 3 1 = hj y 1 1 + 59 ∧ hj y 4 1 = hj y 1 1 + 89 ∧ hj y 5 1 = hj y 1 1 + 118 ∧ hj y 6 1 = hj y 1 1 + 148 := by
  have f := hml_fix y
  have a := hj_7 y
  have b := hj_nhi (y := y) (m := 7) (by omega)
  have c := hj_nhi (y := y) (m := 8) (by omega)
  have d := hj_nhi (y := y) (m := 9) (by omega)
  have e := hj_nhi (y := y) (m := 10) (by omega)
  have g := hj_nhi (y := y) (m := 11) (by omega)
  have h := hj_nhi (y := y) (m := 12) (by omega)
  have i := hj_nlo (y := y) (m := 1) (by omega) (by omega)
  have j := hj_nlo (y := y) (m := 2) (by omega) (by omega)
  have k := hj_nlo (y := y) (m := 3) (by omega) (by omega)
  have l := hj_nlo (y := y) (m := 4) (by omega) (by omega)
  have m := hj_nlo (y := y) (m := 5) (by omega) (by omega)
  simp only [Int.reduceAdd] at b c d e g h i j k l m
  omega
theorem hls_8 (y : Int) : (if ((hT (y + 1) - hT y) % 10 == 5) = true then (30 : Int) else 29) = hml y 8 := by
  rw [hml_8]; unfold hyd; simp
theorem hls_9 (y : Int) : (if ((hT (y + 1) - hT y) % 10 == 3) = true then (29 : Int) else 30) = hml y 9 := by
  rw [hml_9]; unfold hyd; simp
theorem hls_lp (y : Int) : 360 < hT (y + 1) - hT y ↔ hlp y := by
  have := hyd_in y
  unfold hyd at this
  rcases this with ⟨a, b⟩ | ⟨a, b⟩
  · exact ⟨fun h => by omega, fun h => absurd h a⟩
  · exact ⟨fun _ => a, fun _ => by omega⟩
theorem heb_l {n y : Int} (q4 : hT y ≤ n) (q5 : n < hT (y + 1)) (hl : hlp y) {k : Nat} {c : Int} (hk : k < 13) (hc : c = n - hT y - (([30, hml y 8, hml y 9, 29, 30, 30, 29, 30, 29, 30, 29, 30, 29] : List Int).take k).sum) (h0 : 0 ≤ c) (h1 : c < ([30, hml y 8, hml y 9, 29, 30, 30, 29, 30, 29, 30, 29, 30, 29] : List Int).getD k 0) :
    HOK n y (([7, 8, 9, 10, 11, 12, 13, 1, 2, 3, 4, 5, 6] : List Int).getD k 0) (c + 1) := by
  have hm : hms y = 13 := if_pos hl
  have f := hml_fix y
  have t := hj_tab y
  have o := hj_none y
  have h12 : hml y 12 = 30 := by rw [hml_12, if_neg (fun h => h hl)]
  rw [hm] at o
  rcases (by omega : k = 0 ∨ k = 1 ∨ k = 2 ∨ k = 3 ∨ k = 4 ∨ k = 5 ∨ k = 6 ∨ k = 7 ∨ k = 8 ∨ k = 9 ∨ k = 10 ∨ k = 11 ∨ k = 12) with h | h | h | h | h | h | h | h | h | h | h | h | h <;> subst h <;> simp at hc h1 <;>
    exact ⟨q4, q5, by simp, by rw [hm]; simp, by simp; omega, by rw [hj_d]; simp; omega, by simp; omega⟩
theorem heb_c {n y : Int} (q4 : hT y ≤ n) (q5 : n < hT (y + 1)) (hl : ¬ hlp y) {k : Nat} {c : Int} (hk : k < 12) (hc : c = n - hT y - (([30, hml y 8, hml y 9, 29, 30, 29, 30, 29, 30, 29, 30, 29] : List Int).take k).sum) (h0 : 0 ≤ c) (h1 : c < ([30, hml y 8, hml y 9, 29, 30, 29, 30, 29, 30, 29, 30, 29] : List Int).getD k 0) :
    HOK n y (([7, 8, 9, 10, 11, 12, 1, 2, 3, 4, 5, 6] : List Int).getD k 0) (c + 1) := by
  have hm : hms y = 12 := if_neg hl
  have f := hml_fix y
  have t := hj_tab y
  have o := hj_none y
  have h12 : hml y 12 = 29 := by rw [hml_12, if_pos hl]
  rw [hm] at o
  rcases (by omega : k = 0 ∨ k = 1 ∨ k = 2 ∨ k = 3 ∨ k = 4 ∨ k = 5 ∨ k = 6 ∨ k = 7 ∨ k = 8 ∨ k = 9 ∨ k = 10 ∨ k = 11) with h | h | h | h | h | h | h | h | h | h | h | h <;> subst h <;> simp at hc h1 <;>
    exact ⟨q4, q5, by simp, by rw [hm]; simp, by simp; omega, by rw [hj_d]; simp; omega, by simp; omega⟩
theorem heb_fin {n y f l c i : Int} (q : HE2 n y f l) (e : HE9 n c i) : y = hY n ∧ (hmnY (hYr n)).getD i.toNat 0 = hM n ∧ c + 1 = hD n := by
  obtain ⟨rfl, rfl, rfl, q4, q5⟩ := q
  obtain ⟨k, a1, a2, a3, a4, a5⟩ := thr_at (hlsY (hYr n)) 1 (n - hT (hYr n)) (by omega) (by rw [hls_sum]; omega)
  rw [e] at a2 a3 a4 a5
  dsimp only at a2 a3 a4 a5
  have hi : i.toNat = k := by omega
  rw [hi]
  suffices HOK n (hYr n) ((hmnY (hYr n)).getD k 0) (c + 1) from this.eq
  by_cases h : 360 < hT (hYr n + 1) - hT (hYr n)
  · rw [hls_a ⟨rfl, rfl, rfl, q4, q5⟩ h, hls_8, hls_9] at a1 a3 a5
    rw [hmn_a ⟨rfl, rfl, rfl, q4, q5⟩ h]
    exact heb_l q4 q5 ((hls_lp _).mp h) a1 a3 a4 a5
  · rw [hls_b ⟨rfl, rfl, rfl, q4, q5⟩ h, hls_8, hls_9] at a1 a3 a5
    rw [hmn_b ⟨rfl, rfl, rfl, q4, q5⟩ h]
    exact heb_c q4 q5 (fun h' => h ((hls_lp _).mpr h')) a1 a3 a4 a5
set_option maxHeartbeats 1000000 in
theorem law_hebrew_spec (news) (n : Int) (t1 : Tok) : Call1 w loose mean mg mb 2 547 news [.int n t1] (347998 ≤ n) (Ret3 (hY n) (hM n) (hD n)) := by
  refine unwrap ?_
  simp (disch := k_dflt (
    k_with_none
    k_with "gl" => first | exact gl_law_tishri _
    dsimp only [Call1]
    intro dp un gd cn cs aF ccd cl outer A₀ base h₀ L mp s Q E B F X N T hk hdp hun hpre hret
    refine wpAny_call ?_
    k_dflt cell_enter
    (rename Fr _ _ _ _ => FE)
    (refine' startP (l' := [(Str.ofString "number", .int n t1)]) ?cs ?nd FE ?e ?S ?_)
    (case cs => (first | (dsimp only; done) | rfl))
    (case nd => kernel_rfl!)
    (case e => kernel_rfl!)
    (case S => with_reducible (apply Sts.cons; apply Sts.nil; (repeat (first | exact Nones.nil | apply Nones.cons)); (all_goals (repeat (first | exact St.here | apply St.there)))))
    (clear FE; intro hnd FE tk0; (try k_fold))
    k_with "while" => ((with_reducible show wpAny _ _ (execs (Stmt.While _ _ _ ⟨691, _, _, _⟩ :: _) _) _ _ _); (rename Fr _ _ _ _ => zF); (rename News _ _ _ _ => zN); k_dflt (refine' while2 "first" "year" (fun f y => HL1 f y) (fun _ y => y.toNat) (fun f y => HE1 n f y) (by assumption) zF zN ?zwa0 ?zwb0 ?zwa1 ?zwb1 ?zwi ?_ ?_); (case zwa0 => with_reducible (repeat (first | exact At.here | refine At.there ?_))); (case zwb0 => (intros; with_reducible (repeat (first | exact St.here | apply St.there)))); (case zwa1 => with_reducible (repeat (first | exact At.here | refine At.there ?_))); (case zwb1 => (intros; with_reducible (repeat (first | exact St.here | apply St.there)))); (case zwi => (exact hl1_start hpre)); (all_goals (clear zF zN; intros; (try dsimp only at *); (try k_fold))))
    k_with "while" => ((with_reducible show wpAny _ _ (execs (Stmt.While _ _ _ ⟨695, _, _, _⟩ :: _) _) _ _ _); (rename Fr _ _ _ _ => zF); (rename News _ _ _ _ => zN); k_dflt (refine' while3 "year" "first" "later" (fun y f l => HL2 n y f l) (fun _ _ l => (n + 1 - l).toNat) (fun y f l => HE2 n y f l) (by assumption) zF zN ?zwa0 ?zwb0 ?zwa1 ?zwb1 ?zwa2 ?zwb2 ?zwi ?_ ?_); (case zwa0 => with_reducible (repeat (first | exact At.here | refine At.there ?_))); (case zwb0 => (intros; with_reducible (repeat (first | exact St.here | apply St.there)))); (case zwa1 => with_reducible (repeat (first | exact At.here | refine At.there ?_))); (case zwb1 => (intros; with_reducible (repeat (first | exact St.here | apply St.there)))); (case zwa2 => with_reducible (repeat (first | exact At.here | refine At.there ?_))); (case zwb2 => (intros; with_reducible (repeat (first | exact St.here | apply St.there)))); (case zwi => (exact hl2_start (by assumption))); (all_goals (clear zF zN; intros; (try dsimp only at *); (try k_fold))))
    k_with "while" => ((with_reducible show wpAny _ _ (execs (Stmt.While _ _ _ ⟨705, _, _, _⟩ :: _) _) _ _ _); (rename Fr _ _ _ _ => zF); (rename News _ _ _ _ => zN); k_dflt (refine' while2 "count" "i" (fun c i => HI9 n c i) (fun _ i => (20 - i).toNat) (fun c i => HE9 n c i) (by assumption) zF zN ?zwa0 ?zwb0 ?zwa1 ?zwb1 ?zwi ?_ ?_); (case zwa0 => with_reducible (repeat (first | exact At.here | refine At.there ?_))); (case zwb0 => (intros; with_reducible (repeat (first | exact St.here | apply St.there)))); (case zwa1 => with_reducible (repeat (first | exact At.here | refine At.there ?_))); (case zwb1 => (intros; with_reducible (repeat (first | exact St.here | apply St.there)))); (case zwi => (exact hi9_start (by assumption))); (all_goals (clear zF zN; intros; (try dsimp only at *); (try k_fold))))
    k_with "lt" => with_reducible first | exact (by assumption : _ ∧ _ ∧ _ ∧ _ ∧ _ ∧ _ ∧ _ ∧ _ ∧ _ ∧ _ ∧ _ ∧ _ ∧ _ ∧ _ ∧ AllLt _ _).2.2.2.2.2.2.2.2.2.2.2.2.2.2 | exact (by assumption : _ ∧ _ ∧ _ ∧ _ ∧ _ ∧ _ ∧ _ ∧ _ ∧ _ ∧ _ ∧ _ ∧ _ ∧ _ ∧ _ ∧ _ ∧ AllLt _ _).2.2.2.2.2.2.2.2.2.2.2.2.2.2.2 | exact (by assumption : _ ∧ _ ∧ _ ∧ _ ∧ _ ∧ _ ∧ _ ∧ _ ∧ _ ∧ _ ∧ _ ∧ _ ∧ _ ∧ _ ∧ _ ∧ _ ∧ AllLt _ _).2.2.2.2.2.2.2.2.2.2.2.2.2.2.2.2 | exact (by assumption : _ ∧ _ ∧ _ ∧ _ ∧ _ ∧ _ ∧ _ ∧ _ ∧ _ ∧ _ ∧ _ ∧ _ ∧ _ ∧ _ ∧ _ ∧ _ ∧ _ ∧ AllLt _ _).2.2.2.2.2.2.2.2.2.2.2.2.2.2.2.2.2 | exact (by assumption : _ ∧ _ ∧ _ ∧ _ ∧ _ ∧ _ ∧ _ ∧ _ ∧ _ ∧ _ ∧ _ ∧ _ ∧ _ ∧ _ ∧ _ ∧ _ ∧ _ ∧ _ ∧ AllLt _ _).2.2.2.2.2.2.2.2.2.2.2.2.2.2.2.2.2.2 | exact (by assumption : _ ∧ _ ∧ _ ∧ _ ∧ _ ∧ _ ∧ _ ∧ _ ∧ _ ∧ _ ∧ _ ∧ _ ∧ _ ∧ _ ∧ _ ∧ _ ∧ _ ∧ _ ∧ _ ∧ AllLt _ _).2.2.2.2.2.2.2.2.2.2.2.2.2.2.2.2.2.2.2 | exact (by assumption : _ ∧ _ ∧ _ ∧ _ ∧ _ ∧ _ ∧ _ ∧ _ ∧ _ ∧ _ ∧ _ ∧ _ ∧ _ ∧ _ ∧ _ ∧ _ ∧ _ ∧ _ ∧ _ ∧ _ ∧ AllLt _ _).2.2.2.2.2.2.2.2.2.2.2.2.2.2.2.2.2.2.2.2 | exact (by assumption : _ ∧ _ ∧ _ ∧ _ ∧ _ ∧ _ ∧ _ ∧ _ ∧ _ ∧ _ ∧ _ ∧ _ ∧ _ ∧ _ ∧ _ ∧ _ ∧ _ ∧ _ ∧ _ ∧ _ ∧ _ ∧ AllLt _ _).2.2.2.2.2.2.2.2.2.2.2.2.2.2.2.2.2.2.2.2.2 | exact (by assumption : _ ∧ _ ∧ _ ∧ _ ∧ _ ∧ _ ∧ _ ∧ _ ∧ _ ∧ _ ∧ _ ∧ _ ∧ _ ∧ _ ∧ _ ∧ _ ∧ _ ∧ _ ∧ _ ∧ _ ∧ _ ∧ _ ∧ AllLt _ _).2.2.2.2.2.2.2.2.2.2.2.2.2.2.2.2.2.2.2.2.2.2
    k_with "inv" => first | exact hi9_turn (by assumption) (by assumption) | exact hl1_turn hpre (by assumption) (by assumption) | exact hl2_turn (by assumption) (by assumption)
    k_with "meas" => first | (have := hi9_lt (by assumption); omega) | (have := (by assumption : HL1 _ _).2; omega) | exact hl2_meas (by assumption) (by assumption)
    k_with "exit" => first | exact hi9_exit (by assumption) (by assumption) | exact hl1_exit (by assumption) (by assumption) | exact hl2_exit (by assumption) (by assumption)
    k_with "sub tab" => (k_dflt (refine' sub_tab (ms := hmnY (hYr n)) (ls := hlsY (hYr n)) ?zqN ?zqm ?zqt ?zqk ?_ ?zqs; (case zqN => k_asm); (case zqm => k_mem); (case zqt => first | (rw [hls_a (by assumption) (by assumption), hmn_a (by assumption) (by assumption)]; repeat (first | exact TabAt.nil | refine TabAt.cons (tupAt_led (by k_asm) (by k_mem) (by repeat constructor)) ?_)) | (rw [hls_b (by assumption) (by assumption), hmn_b (by assumption) (by assumption)]; repeat (first | exact TabAt.nil | refine TabAt.cons (tupAt_led (by k_asm) (by k_mem) (by repeat constructor)) ?_))); (case zqk => first | exact hi9_in (by assumption) | exact he9_in (by assumption) (by assumption)); (case zqs => with_unfolding_all rfl)); intro d9 z9)
    k_steps
    all_goals (refine' end3 hret ?q7a ?q7b ?q7c ?q7f ?q7n ?q7m ?q7s ?q7l; (case q7f => k_asm); (case q7n => k_asm); (case q7m => k_mem); (case q7s => (first | exact fun _ h => h | exact fun _ h => .tail _ h | exact fun _ h => .tail _ (.tail _ h) | exact fun _ h => .tail _ (.tail _ (.tail _ h)) | exact fun _ h => .tail _ (.tail _ (.tail _ (.tail _ h))) | exact fun _ h => .tail _ (.tail _ (.tail _ (.tail _ (.tail _ h)))) | (intro p9 hp9; repeat (first | exact hp9 | refine List.Mem.tail _ ?_)))); (case q7l => (first | assumption | k_extra "lt" | exact allLt_of (by assumption) | exact And.right (by assumption) | (simp only [AllLt, and_true] at *; first | assumption | exact allLt_of (by assumption) | exact And.right (by assumption) | (simp_all; done)))); (case q7a => (first | exact (heb_fin (by assumption) (by assumption)).1 | exact (heb_fin (by assumption) (by assumption)).2.1 | exact (heb_fin (by assumption) (by assumption)).2.2)); (case q7b => (first | exact (heb_fin (by assumption) (by assumption)).1 | exact (heb_fin (by assumption) (by assumption)).2.1 | exact (heb_fin (by assumption) (by assumption)).2.2)); (case q7c => (first | exact (heb_fin (by assumption) (by assumption)).1 | exact (heb_fin (by assumption) (by assumption)).2.1 | exact (heb_fin (by assumption) (by assumption)).2.2))))) only [↓wrap_true]
local macro_rules | `(tactic| walk_at "call ref") => `(tactic| (k_here; (with_reducible show wpAny _ _ (call (Value.ref 547) _) _ _ _); k_dflt (refine' use1 (law_hebrew_spec _ _ _) ?k1a547c75 ?k2a547c75 ?k3a547c75 ?k4a547c75 ?k5a547c75 ?kKa547c75 ?kda547c75 ?kua547c75 ?kpa547c75 ?_; (case k1a547c75 => k_asm); (case k2a547c75 => k_asm); (case k3a547c75 => k_asm); (case k4a547c75 => k_asm); (case k5a547c75 => k_asm); (case kKa547c75 => first | exact rfl | assumption); (case kda547c75 => first | omega | ktr_room); (case kua547c75 => first | omega | ktr_units); (case kpa547c75 => first | trivial | assumption | omega | (constructor <;> omega) | k_extra "pre")); intro D9 t91 t92 t93 c9 h9 tk9 F9 N9 l9; (try simp only [AllLt, and_true] at l9); (try dsimp only); (try k_sweep); (try k_fold)))

-- A19
-- the law's helpers place and morrow once more (the civil tuple is that of the day n), and date
theorem plb_moff {m d : Int} (h1 : 1 ≤ m) (h2 : m ≤ 12) (l : Bool) : (if 2 < m ∧ l = true then plb m d + 1 else plb m d) = moff l m + d - 1 := by
  unfold moff
  rcases twelve h1 h2 with h | h | h | h | h | h | h | h | h | h | h | h <;> subst h <;> cases l <;> simp [plb] <;> omega
theorem plc_yday (n : Int) : plc (cy n) (cm n) (cd n) = yday n := by
  have hl := civ_legal n
  have e := plb_moff (d := cd n) hl.1 hl.2.1 (isleap (cy n))
  have g := civ_day n
  rw [gjd_off] at g
  have q : plc (cy n) (cm n) (cd n) = if 2 < cm n ∧ isleap (cy n) = true then plb (cm n) (cd n) + 1 else plb (cm n) (cd n) := by
    unfold plc
    rcases dys_cases (cy n) with ⟨a, b, _⟩ | ⟨a, b, _⟩ <;> simp [a, b]
  rw [q, e, yday_eq]
  omega
theorem place2_spec (news) (D : Addr) (n : Int) (t1 t2 t3 : Tok) (c : Nat) (hm : (D, tup3 (cy n) (cm n) (cd n) t1 t2 t3 c) ∈ news) :
    Call1 w loose mean mg mb 3 528 news [.ref D] True (RetI (yday n)) := by
  have h := place_spec (w := w) (loose := loose) (mean := mean) (mg := mg) (mb := mb) news D (cy n) (cm n) (cd n) t1 t2 t3 c hm
  rw [plc_yday] at h
  intro dp un gd cn cs aF ccd cl outer A₀ base h₀ L mp s Q E B F X N T hk hdp hun _ hret
  exact h dp un gd cn cs aF ccd cl outer A₀ base h₀ L mp s Q E B F X N T hk hdp hun ⟨(civ_legal n).1, (civ_legal n).2.1⟩ hret
theorem morrow2_spec (news) (D : Addr) (n : Int) (t1 t2 t3 : Tok) (c : Nat) (hm : (D, tup3 (cy n) (cm n) (cd n) t1 t2 t3 c) ∈ news) :
    Call1 w loose mean mg mb 3 521 news [.ref D] True (Ret3 (cy (n + 1)) (cm (n + 1)) (cd (n + 1))) := by
  have h := morrow_spec (w := w) (loose := loose) (mean := mean) (mg := mg) (mb := mb) news D n (cy n) (cm n) (cd n) t1 t2 t3 c hm
  intro dp un gd cn cs aF ccd cl outer A₀ base h₀ L mp s Q E B F X N T hk hdp hun _ hret
  exact h dp un gd cn cs aF ccd cl outer A₀ base h₀ L mp s Q E B F X N T hk hdp hun ⟨rfl, rfl, rfl⟩ hret
local macro_rules | `(tactic| walk_at "call ref") => `(tactic| (k_here; (with_reducible show wpAny _ _ (call (Value.ref 528) _) _ _ _); k_dflt (refine' use1 (place2_spec _ _ _ _ _ _ _ ?hl76) ?k1a528c76 ?k2a528c76 ?k3a528c76 ?k4a528c76 ?k5a528c76 ?kKa528c76 ?kda528c76 ?kua528c76 ?kpa528c76 ?_; (case k1a528c76 => k_asm); (case k2a528c76 => k_asm); (case k3a528c76 => k_asm); (case k4a528c76 => k_asm); (case k5a528c76 => k_asm); (case hl76 => (repeat (first | with_reducible_and_instances exact List.Mem.head _ | with_reducible assumption | with_reducible_and_instances assumption | refine List.Mem.tail _ ?_))); (case kKa528c76 => first | exact rfl | assumption); (case kda528c76 => first | omega | ktr_room); (case kua528c76 => first | omega | ktr_units); (case kpa528c76 => first | trivial | assumption | omega | (constructor <;> omega) | k_extra "pre")); intro t9 h9 tk9 F9 N9; (try dsimp only); (try k_sweep); (try k_fold)))
local macro_rules | `(tactic| walk_at "call ref") => `(tactic| (k_here; (with_reducible show wpAny _ _ (call (Value.ref 521) _) _ _ _); k_dflt (refine' use1 (morrow2_spec _ _ _ _ _ _ _ ?hl77) ?k1a521c77 ?k2a521c77 ?k3a521c77 ?k4a521c77 ?k5a521c77 ?kKa521c77 ?kda521c77 ?kua521c77 ?kpa521c77 ?_; (case k1a521c77 => k_asm); (case k2a521c77 => k_asm); (case k3a521c77 => k_asm); (case k4a521c77 => k_asm); (case k5a521c77 => k_asm); (case hl77 => (repeat (first | with_reducible_and_instances exact List.Mem.head _ | with_reducible assumption | with_reducible_and_instances assumption | refine List.Mem.tail _ ?_))); (case kKa521c77 => first | exact rfl | assumption); (case kda521c77 => first | omega | ktr_room); (case kua521c77 => first | omega | ktr_units); (case kpa521c77 => first | trivial | assumption | omega | (constructor <;> omega) | k_extra "pre")); intro D9 t91 t92 t93 c9 h9 tk9 F9 N9 l9; (try simp only [AllLt, and_true] at l9); (try dsimp only); (try k_sweep); (try k_fold)))
section
variable {prog : Program} {wd : World} {A : Around} {E : Value → Shared → Prop} {s : Shared} {h₀ : Heap} {L : Addr} {news : List (Addr × Obj)}
theorem sub3_0 {value slice : Expr} {t : Addr} {a b d : Int} {t1 t2 t3 u : Tok} {c : Nat} {Q : Value → Shared → Prop} (N : News h₀ L s.heap news) (hm : (t, tup3 a b d t1 t2 t3 c) ∈ news) (h : ∀ v, Q (.int a v) s)
    (hs : subscripted slice false (.ref t) (.int 0 u) = operate [.ref t, .int 0 u] (getItem (.ref t) (.int 0 u)) := by with_unfolding_all rfl) : wpAny (model prog wd) A (subscriptTail value slice (.ref t) (.int 0 u)) Q E s := sub_tupAt (zs := [a, b, d]) (tupAt_led N hm (by repeat constructor)) ⟨by decide, by simp, by decide⟩ h hs
theorem sub3_1 {value slice : Expr} {t : Addr} {a b d : Int} {t1 t2 t3 u : Tok} {c : Nat} {Q : Value → Shared → Prop} (N : News h₀ L s.heap news) (hm : (t, tup3 a b d t1 t2 t3 c) ∈ news) (h : ∀ v, Q (.int b v) s)
    (hs : subscripted slice false (.ref t) (.int 1 u) = operate [.ref t, .int 1 u] (getItem (.ref t) (.int 1 u)) := by with_unfolding_all rfl) : wpAny (model prog wd) A (subscriptTail value slice (.ref t) (.int 1 u)) Q E s := sub_tupAt (zs := [a, b, d]) (tupAt_led N hm (by repeat constructor)) ⟨by decide, by simp, by decide⟩ h hs
theorem sub3_2 {value slice : Expr} {t : Addr} {a b d : Int} {t1 t2 t3 u : Tok} {c : Nat} {Q : Value → Shared → Prop} (N : News h₀ L s.heap news) (hm : (t, tup3 a b d t1 t2 t3 c) ∈ news) (h : ∀ v, Q (.int d v) s)
    (hs : subscripted slice false (.ref t) (.int 2 u) = operate [.ref t, .int 2 u] (getItem (.ref t) (.int 2 u)) := by with_unfolding_all rfl) : wpAny (model prog wd) A (subscriptTail value slice (.ref t) (.int 2 u)) Q E s := sub_tupAt (zs := [a, b, d]) (tupAt_led N hm (by repeat constructor)) ⟨by decide, by simp, by decide⟩ h hs
end
local macro_rules | `(tactic| walk_at "subscriptTail Name Constant ref int") => `(tactic| (k_here; (with_reducible show wpAny _ _ (subscriptTail _ _ (Value.ref _) (Value.int 0 _)) _ _ _); k_dflt (refine' sub3_0 ?zx0N ?zx0m ?_ ?zx0s; (case zx0N => k_asm); (case zx0m => (repeat (first | with_reducible_and_instances exact List.Mem.head _ | with_reducible assumption | with_reducible_and_instances assumption | refine List.Mem.tail _ ?_))); (case zx0s => with_unfolding_all rfl)); intro v9))
local macro_rules | `(tactic| walk_at "subscriptTail Name Constant ref int") => `(tactic| (k_here; (with_reducible show wpAny _ _ (subscriptTail _ _ (Value.ref _) (Value.int 1 _)) _ _ _); k_dflt (refine' sub3_1 ?zx1N ?zx1m ?_ ?zx1s; (case zx1N => k_asm); (case zx1m => (repeat (first | with_reducible_and_instances exact List.Mem.head _ | with_reducible assumption | with_reducible_and_instances assumption | refine List.Mem.tail _ ?_))); (case zx1s => with_unfolding_all rfl)); intro v9))
local macro_rules | `(tactic| walk_at "subscriptTail Name Constant ref int") => `(tactic| (k_here; (with_reducible show wpAny _ _ (subscriptTail _ _ (Value.ref _) (Value.int 2 _)) _ _ _); k_dflt (refine' sub3_2 ?zx2N ?zx2m ?_ ?zx2s; (case zx2N => k_asm); (case zx2m => (repeat (first | with_reducible_and_instances exact List.Mem.head _ | with_reducible assumption | with_reducible_and_instances assumption | refine List.Mem.tail _ ?_))); (case zx2s => with_unfolding_all rfl)); intro v9))
abbrev RetL (xs : List Int) (h₀ : Heap) (L : Addr) (m : Str → Option Value) (news : List (Addr × Obj)) (s : Shared) (Q : Value → Shared → Prop) : Prop :=
  ∀ (D : Addr) (vs : List Value) (c : Nat) (h' : Heap) (tk' : Nat), Fr h₀ L h' m → News h₀ L h' ((D, { cls := .type "tuple", data := .seq vs.toArray c }) :: news) → AllLt D news → IntsAre vs xs → Q (.ref D) { s with heap := h', toks := tk' }
theorem endL {h₀ h' : Heap} {L : Addr} {m : Str → Option Value} {news news' : List (Addr × Obj)} {s : Shared} {Q : Value → Shared → Prop} {tk' : Nat} {xs ys : List Int} {vs : List Value} {c : Nat} {D : Addr} (hret : RetL xs h₀ L m news s Q) (hm : (D, ({ cls := .type "tuple", data := .seq vs.toArray c } : Obj)) ∈ news') (hi : IntsAre vs ys) (e : ys = xs) (F : Fr h₀ L h' m) (N : News h₀ L h' news') (hn : ∀ p ∈ news, p ∈ news') (hl : AllLt D news) : Q (.ref D) { s with heap := h', toks := tk' } := by
  subst e
  exact hret D vs c h' tk' F (fun p hp => by
    rcases List.mem_cons.mp hp with rfl | hp
    · exact N _ hm
    · exact N p (hn p hp)) hl hi
abbrev jz (y : Int) : List Int := [31, if (y % 4 == 0) = true then 29 else 28, 31, 30, 31, 30, 31, 31, 30, 31, 30, 31]
abbrev c30 (k : Int) : List Int := [30, 30, 30, 30, 30, 30, 30, 30, 30, 30, 30, 30, k]
abbrev thrL (y c : Int) (zs : List Int) : List Int := [y, (thr zs 1 c).1, (thr zs 1 c).2 + 1]
abbrev foY (c y r : Int) : Int := fyr (FT c y r) r
abbrev foC (c y r : Int) : Int := FT c y r - F4 r (fyr (FT c y r) r)
abbrev hij : List Int := [2, 5, 7, 10, 13, 16, 18, 21, 24, 26, 29]
abbrev iz : List Int := [30, 29, 30, 29, 30, 29, 30, 29, 30, 29, 30, 30]
abbrev iP (n : Int) : Int := (n - 1948440) % 10631 / 355
abbrev iC (n : Int) : Int := (n - 1948440) % 10631 - (354 * iP n + cnt hij (iP n))
abbrev iW (n : Int) : Int := 30 * ((n - 1948440) / 10631)
abbrev dat0 (n : Int) : List Int := thrL (foY (n - 1721424) 1 0) (foC (n - 1721424) 1 0) (jz (foY (n - 1721424) 1 0))
abbrev dat1 (n : Int) : List Int := [cy n, yday n + 1]
abbrev iS (n : Int) : Int := if (hij.any (· == iP n + 1)) = true then 355 else 354
abbrev dat2 (n : Int) : List Int := if iS n ≤ iC n then thrL (iW n + (iP n + 1) + 1) (iC n - iS n) iz else thrL (iW n + iP n + 1) (iC n) iz
abbrev dat3 (n : Int) : List Int := thrL (foY (n - 1825030) 1 3) (foC (n - 1825030) 1 3) (c30 6)
abbrev nz (y : Int) : List Int := [dys y - 335, 31, 31, 31, 31, 31, 30, 30, 30, 30, 30, 30]
abbrev dat4 (n : Int) : List Int := if yday n < 80 then thrL (cy n - 1 - 78) (yday n + dys (cy n - 1) - 80) (nz (cy n - 1)) else thrL (cy n - 78) (yday n - 80) (nz (cy n))
abbrev dat5 (n : Int) : List Int := [(n - 584283) / 20 / 18 / 20 / 20, (n - 584283) / 20 / 18 / 20 % 20, (n - 584283) / 20 / 18 % 20, (n - 584283) / 20 % 18, (n - 584283) % 20]
abbrev dat6 (n : Int) : List Int := thrL ((n - 1922868) / 365 + 1) ((n - 1922868) % 365) (c30 5)
abbrev dat7 (n : Int) : List Int := thrL (foY (n - 2117212) 533 0) (foC (n - 2117212) 533 0) (c30 6)
noncomputable abbrev dat8 (n : Int) : List Int := [hY n, hM n, hD n]
abbrev dat9 (n : Int) : List Int := thrL (foY (n - 2375840) 1 3) (foC (n - 2375840) 1 3) (c30 6)
abbrev dat10 (n : Int) : List Int := thrL (cy n - 1788) (yday n) [28, 28, 28, 28, 28, 28, 28, 28, 28, 28, 28, 28, 28, 2]
abbrev wp (n : Int) : Int := yday n + (3 - n % 7)
abbrev dat11 (n : Int) : List Int := if wp n < 0 then [cy n - 1, (wp n + dys (cy n - 1)) / 7 + 1, n % 7 + 1] else if dys (cy n) ≤ wp n then [cy n + 1, (wp n - dys (cy n)) / 7 + 1, n % 7 + 1] else [cy n, wp n / 7 + 1, n % 7 + 1]
noncomputable def dat (k n : Int) : List Int := if k = 0 then dat0 n else if k = 1 then dat1 n else if k = 2 then dat2 n else if k = 3 then dat3 n else if k = 4 then dat4 n else if k = 5 then dat5 n else if k = 6 then dat6 n else if k = 7 then dat7 n else if k = 8 then dat8 n else if k = 9 then dat9 n else if k = 10 then dat10 n else dat11 n
theorem dat_0 {k n : Int} (h : k = 0) : dat0 n = dat k n := by subst h; rfl
theorem dat_1 {k n : Int} (h : k = 1) : dat1 n = dat k n := by subst h; rfl
theorem dat_2a {k n : Int} (h : k = 2) (h2 : iS n ≤ iC n) : thrL (iW n + (iP n + 1) + 1) (iC n - iS n) iz = dat k n := by subst h; exact (if_pos h2).symm
theorem dat_2b {k n : Int} (h : k = 2) (h2 : ¬ iS n ≤ iC n) : thrL (iW n + iP n + 1) (iC n) iz = dat k n := by subst h; exact (if_neg h2).symm
theorem dat_3 {k n : Int} (h : k = 3) : dat3 n = dat k n := by subst h; rfl
theorem dat_4a {k n : Int} (h : k = 4) (h2 : yday n < 80) : thrL (cy n - 1 - 78) (yday n + dys (cy n - 1) - 80) (nz (cy n - 1)) = dat k n := by subst h; exact (if_pos h2).symm
theorem dat_4b {k n : Int} (h : k = 4) (h2 : ¬ yday n < 80) : thrL (cy n - 78) (yday n - 80) (nz (cy n)) = dat k n := by subst h; exact (if_neg h2).symm
theorem dat_5 {k n : Int} (h : k = 5) : dat5 n = dat k n := by subst h; rfl
theorem dat_6 {k n : Int} (h : k = 6) : dat6 n = dat k n := by subst h; rfl
theorem dat_7 {k n : Int} (h : k = 7) : dat7 n = dat k n := by subst h; rfl
theorem dat_8 {k n : Int} (h : k = 8) : dat8 n = dat k n := by subst h; rfl
theorem dat_9 {k n : Int} (h : k = 9) : dat9 n = dat k n := by subst h; rfl
theorem dat_10 {k n : Int} (h : k = 10) : dat10 n = dat k n := by subst h; rfl
theorem dat_11 {k n : Int} (h : k = 11) : dat11 n = dat k n := by subst h; rfl
theorem dat_11a {k n : Int} (h : k = 11) (h2 : wp n < 0) : [cy n - 1, (wp n + dys (cy n - 1)) / 7 + 1, n % 7 + 1] = dat k n := by subst h; exact (if_pos h2).symm
theorem dat_11b {k n : Int} (h : k = 11) (h2 : ¬ wp n < 0) (h3 : dys (cy n) ≤ wp n) : [cy n + 1, (wp n - dys (cy n)) / 7 + 1, n % 7 + 1] = dat k n := by subst h; exact ((if_neg h2).trans (if_pos h3)).symm
theorem dat_11c {k n : Int} (h : k = 11) (h2 : ¬ wp n < 0) (h3 : ¬ dys (cy n) ≤ wp n) : [cy n, wp n / 7 + 1, n % 7 + 1] = dat k n := by subst h; exact ((if_neg h2).trans (if_neg h3)).symm
theorem fo_in (c y : Int) {r : Int} (hr : 0 ≤ r ∧ r ≤ 3) : 0 ≤ foC c y r ∧ (foY c y r % 4 = r → foC c y r < 366) ∧ (foY c y r % 4 ≠ r → foC c y r < 365) := by
  unfold foY foC
  generalize FT c y r = T
  unfold fyr F4
  omega
theorem pre_0 (c y : Int) : 0 ≤ foC c y 0 ∧ foC c y 0 < (jz (foY c y 0)).sum := by
  obtain ⟨h1, h2, h3⟩ := fo_in c y (r := 0) (by decide)
  refine ⟨h1, ?_⟩
  by_cases h : foY c y 0 % 4 = 0
  · have := h2 h; simp [h]; omega
  · have := h3 h; simp [h]; omega
theorem pre_30 (c y : Int) {r : Int} (hr : 0 ≤ r ∧ r ≤ 3) : 0 ≤ foC c y r ∧ foC c y r < (c30 6).sum := by
  obtain ⟨h1, h2, h3⟩ := fo_in c y hr
  refine ⟨h1, ?_⟩
  by_cases h : foY c y r % 4 = r
  · have := h2 h; simp; omega
  · have := h3 h; simp; omega
theorem lt30 {r : Int} (h0 : 0 ≤ r) (h1 : r ≤ 29) : r = 0 ∨ r = 1 ∨ r = 2 ∨ r = 3 ∨ r = 4 ∨ r = 5 ∨ r = 6 ∨ r = 7 ∨ r = 8 ∨ r = 9 ∨ r = 10 ∨ r = 11 ∨ r = 12 ∨ r = 13 ∨ r = 14 ∨ r = 15 ∨ r = 16 ∨ r = 17 ∨ r = 18 ∨ r = 19 ∨ r = 20 ∨ r = 21 ∨ r = 22 ∨ r = 23 ∨ r = 24 ∨ r = 25 ∨ r = 26 ∨ r = 27 ∨ r = 28 ∨ r = 29 := by omega
theorem cnt_hij {r : Int} (h0 : 0 ≤ r) (h1 : r ≤ 29) : cnt hij r = (11 * r + 14) / 30 ∧ (if (hij.any (· == r + 1)) = true then (355 : Int) else 354) = 354 + ((11 * r + 25) / 30 - (11 * r + 14) / 30) := by
  rcases lt30 h0 h1 with h | h | h | h | h | h | h | h | h | h | h | h | h | h | h | h | h | h | h | h | h | h | h | h | h | h | h | h | h | h <;> subst h <;> decide
theorem iP_in (n : Int) : 0 ≤ iP n ∧ iP n ≤ 29 := by unfold iP; omega
theorem i_eq (n : Int) : iC n = (n - 1948440) % 10631 - (354 * iP n + (11 * iP n + 14) / 30) ∧ iS n = 354 + ((11 * iP n + 25) / 30 - (11 * iP n + 14) / 30) := by
  obtain ⟨a, b⟩ := cnt_hij (iP_in n).1 (iP_in n).2
  exact ⟨by rw [← a], b⟩
theorem pre_2a {n : Int} (h : iS n ≤ iC n) : 0 ≤ iC n - iS n ∧ iC n - iS n < iz.sum := by
  obtain ⟨a, b⟩ := i_eq n
  rw [a, b] at h
  rw [a, b]
  have e : iz.sum = 355 := by decide
  rw [e]
  have hp : iP n = (n - 1948440) % 10631 / 355 := rfl
  generalize iP n = P at *
  omega
theorem pre_2b {n : Int} (h : ¬ iS n ≤ iC n) : 0 ≤ iC n ∧ iC n < iz.sum := by
  obtain ⟨a, b⟩ := i_eq n
  rw [a, b] at h
  rw [a]
  have e : iz.sum = 355 := by decide
  rw [e]
  have hp : iP n = (n - 1948440) % 10631 / 355 := rfl
  generalize iP n = P at *
  omega
theorem yday_lt (n : Int) : 0 ≤ yday n ∧ yday n < dys (cy n) := by have := yday_in n; rw [dys_l]; unfold lp at this; exact this
theorem nz_sum (y : Int) : (nz y).sum = dys y := by simp
theorem dys_in (y : Int) : 365 ≤ dys y ∧ dys y ≤ 366 := by rcases dys_cases y with h | h <;> omega
theorem pre_4a {n : Int} (h : yday n < 80) : 0 ≤ yday n + dys (cy n - 1) - 80 ∧ yday n + dys (cy n - 1) - 80 < (nz (cy n - 1)).sum := by
  rw [nz_sum]; have := yday_lt n; have := dys_in (cy n - 1); omega
theorem pre_4b {n : Int} (h : ¬ yday n < 80) : 0 ≤ yday n - 80 ∧ yday n - 80 < (nz (cy n)).sum := by
  rw [nz_sum]; have := yday_lt n; omega
theorem pre_6 (x : Int) : 0 ≤ x % 365 ∧ x % 365 < (c30 5).sum := by
  have e : (c30 5).sum = 365 := by decide
  rw [e]; omega
theorem pre_10 (n : Int) : 0 ≤ yday n ∧ yday n < ([28, 28, 28, 28, 28, 28, 28, 28, 28, 28, 28, 28, 28, 2] : List Int).sum := by
  have e : ([28, 28, 28, 28, 28, 28, 28, 28, 28, 28, 28, 28, 28, 2] : List Int).sum = 366 := by decide
  rw [e]; have := yday_lt n; have := dys_in (cy n); omega
theorem throughI {news} {D : Addr} {o : Obj} {zs : List Int} {y c : Int} {t1 t2 : Tok} (hm : (D, o) ∈ news) (ho : SeqI o zs) (hl : zs.length < 20) :
    Call1 w loose mean mg mb 1 507 news [.int y t1, .int c t2, .ref D] (0 ≤ c ∧ c < zs.sum) (Ret3 y (thr zs 1 c).1 ((thr zs 1 c).2 + 1)) := through_spec news D o zs y c t1 t2 hm ho hl
local macro_rules | `(tactic| walk_at "call ref") => `(tactic| (k_here; (with_reducible show wpAny _ _ (call (Value.ref 507) _) _ _ _); k_dflt (refine' use1 (throughI ?hmz ?hnz ?hoz) ?k1z ?k2z ?k3z ?k4z ?k5z ?kKz ?kdz ?kuz ?kpz ?_; (case k1z => k_asm); (case k2z => k_asm); (case k3z => k_asm); (case k4z => k_asm); (case k5z => k_asm); (case kKz => first | exact rfl | assumption); (case kdz => first | omega | ktr_room); (case kuz => first | omega | ktr_units); (case hmz => k_mem); (case hnz => first | exact seq_tup (by assumption) | exact seq_lst (by assumption) | exact seq_lst (by repeat constructor)); (case hoz => simp); (case kpz => k_extra "pre")); intro D9 t91 t92 t93 c9 h9 tk9 F9 N9 l9; (try simp only [AllLt, and_true] at l9); (try dsimp only); (try k_sweep); (try k_fold)))
theorem off1_of {D : Addr} : ∀ {l : List (Addr × Obj)}, (∀ p ∈ l, p.1 ≠ D) → LCg.Off1 D l
  | [], _ => trivial
  | _ :: _, h => ⟨h _ List.mem_cons_self, off1_of fun p hp => h p (List.mem_cons_of_mem _ hp)⟩
local macro_rules | `(tactic| walk_at "SrcLe") => `(tactic| (k_here; k_dflt (refine' srcLe_intro ?zm1 ?zm2 ?zm3 ?zm4 ?zm5 ?zm6 ?zm7 ?_; (case zm1 => with_unfolding_all exact rfl); (case zm2 => k_asm); (case zm3 => k_asm); (case zm4 => exact tupAt_top0 (by k_asm) (by k_is) (by repeat constructor)); (case zm5 => k_mem); (case zm6 => k_asm); (case zm7 => (simp))); intro D9 ys9 h9 tk9 F9 N9 o9 i9; (replace o9 := off1_of o9); (try simp only [LCg.Off1, and_true] at o9); (try k_sweep); (try dsimp only)))
section
variable {M : Model} {A : Around} {E : Value → Shared → Prop} {s : Shared} {h₀ : Heap} {L a c : Addr} {cn : Str} {cs : Scope} {ccd : Value} {cl : List (Str × Addr)} {x : Str} {v : Value} {news : List (Addr × Obj)} {o : Obj}
theorem loadC {Q : Value → Shared → Prop} (N : News h₀ L s.heap news) (hc : cl.lookup x = some c) (hm : (c, o) ∈ news) (hd : o.data = .cell (some v)) (h : Q v s)
    (hk : cs.kind = .function) (hx : (envX cn cs L a ccd cl).kindOf x = some .cell) : wpAny M A (loadName (envX cn cs L a ccd cl) x) Q E s :=
  wpAny_loadName_cell hk hx hc ⟨o, N.get hm, hd⟩ h
end
local macro_rules | `(tactic| walk_at "loadName") => `(tactic| (k_here; k_dflt (first
  | (refine' loadP ?nlc ?clc ?Flc ?alc ?klc ?_; (case nlc => assumption); (case clc => rfl); (case klc => rfl); (case Flc => k_asm); (case alc => with_reducible (repeat (first | exact At.here | refine At.there ?_))))
  | (refine' loadC ?Nld ?cld ?mld ?dld ?_ ?ald ?bld; (case ald => rfl); (case bld => rfl); (case Nld => k_asm); (case cld => rfl); (case mld => k_mem); (case dld => k_asm)))))
theorem in_anyTup {M : Program} {wd : World} {A : Around} {E : Value → Shared → Prop} {s : Shared} {K : Frag} {h₀ : Heap} {L a : Addr} {mp : Str → Option Value} {dd : Option Addr} {n : Nat} {sl : Array (Option Value)} {l : List Value} {ns : List Int} {k : Int} {t : Tok} {Q : Value → Shared → Prop}
    (F : Fr h₀ L s.heap mp) (X₀ : K.In h₀) (hl : K.lookup a = some ⟨.type "tuple", dd, .seq l.toArray n, sl⟩) (hi : IntsAre l ns) (h : Q (.bool (ns.any (· == k))) s) : wpAny (model M wd) A (compareOp .In (.int k t) (.ref a)) Q E s :=
  in_tuple_ints (tupK (X₀.keeps F.keep) hl) hi h
local macro_rules | `(tactic| walk_at "compareOp In int ref") => `(tactic| (k_here; k_dflt (refine' in_anyTup ?Fia ?Xia ?lia ?iia ?_; (case Fia => k_asm); (case Xia => k_asm); (case lia => k_is); (case iia => (repeat constructor)))))
set_option maxHeartbeats 4000000 in
theorem date_spec (news) (D : Addr) (k n : Int) (t1 t2 t3 t4 t5 : Tok) (c : Nat) (hm : (D, tup3 (cy n) (cm n) (cd n) t1 t2 t3 c) ∈ news) :
    Call1 w loose mean mg mb 5 552 news [.int k t4, .int n t5, .ref D] (0 ≤ k ∧ k ≤ 11 ∧ (k = 8 → 347998 ≤ n)) (RetL (dat k n)) := by
  refine unwrap ?_
  simp (disch := k_dflt (
    k_with_none
    k_with "gl" => first | exact gl_law_place _ | exact gl_law_fours _ | exact gl_law_through _ | exact gl_law_hebrew _ | exact gl_law_days _ | exact gl_law_hijri _ | exact gl_law_sizes _
    k_with "gb" => first | exact gb_divmod _ | exact gb_len _
    dsimp only [Call1]
    intro dp un gd cn cs aF ccd cl outer A₀ base h₀ L mp s Q E B F X N T hk hdp hun hpre hret
    refine wpAny_call ?_
    k_dflt (refine' code_defC ?k1 ?k2 ?k3 ?k4 ?k5 ?kA ?kF ?kK ?k6 ?k7 ?k8 ?k9 ?kB ?kD ?_ ?c2 ?c3 ?c4; (case kA => exact rfl); (case kF => exact rfl); (case kK => assumption); (case k1 => k_asm); (case k2 => k_asm); (case k3 => k_asm); (case k4 => k_asm); (case k5 => k_asm); (case k6 => k_is); (case k7 => k_is); (case k8 => ktr_room); (case k9 => first | exact BindsTo.of_eq rfl | exact binds_K (by k_in) rfl (by k_is) rfl rfl rfl); (case kB => exact rfl); (case kD => decide +kernel); (case c2 => exact rfl); (case c3 => exact rfl); (case c4 => exact rfl); k_whole; intro g' L' h' tk' cells' FG' F' N' Y' B' X' T' l1; (try k_lt l1); k_cells Y'; (try simp only [List.cons_append, List.nil_append] at N'); (try dsimp only); (try k_lift B'); (try k_fold))
    (rename Fr _ _ _ _ => FE)
    (refine' startC (l' := [(Str.ofString "civil", .ref D), (Str.ofString "number", .int n t5), (Str.ofString "which", .int k t4)]) ?cs ?nd FE ?e ?S ?_)
    (case cs => (first | (dsimp only; done) | rfl))
    (case nd => kernel_rfl!)
    (case e => kernel_rfl!)
    (case S => with_reducible (apply Sts.cons; apply Sts.cons; apply Sts.cons; apply Sts.nil; (repeat (first | exact Nones.nil | apply Nones.cons)); (all_goals (repeat (first | exact St.here | apply St.there)))))
    (clear FE; intro hnd FE tk0; (try k_fold))
    k_with "pre" => first | (with_reducible first | exact pre_0 _ _ | exact pre_30 _ _ (by decide) | exact pre_2a (by assumption) | exact pre_2b (by assumption) | exact pre_4a (by assumption) | exact pre_4b (by assumption) | exact pre_6 _ | exact pre_10 _) | exact hpre.2.2 (by assumption) | exact pre_0 _ _
    k_steps
    all_goals (refine' endL hret ?q7m ?q7i ?q7a ?q7f ?q7n ?q7s ?q7l; (case q7f => k_asm); (case q7n => k_asm); (case q7m => k_mem); (case q7i => (repeat constructor)); (case q7s => (first | exact fun _ h => h | exact fun _ h => .tail _ h | exact fun _ h => .tail _ (.tail _ h) | exact fun _ h => .tail _ (.tail _ (.tail _ h)) | exact fun _ h => .tail _ (.tail _ (.tail _ (.tail _ h))) | exact fun _ h => .tail _ (.tail _ (.tail _ (.tail _ (.tail _ h)))) | (intro p9 hp9; repeat (first | exact hp9 | refine List.Mem.tail _ ?_)))); (case q7l => (first | assumption | k_extra "lt" | exact allLt_of (by assumption) | exact And.right (by assumption) | (simp only [AllLt, and_true] at *; first | assumption | exact allLt_of (by assumption) | exact And.right (by assumption) | (simp_all; done)))); (case q7a => (first | (with_reducible first | exact dat_1 (by assumption) | exact dat_2a (by assumption) (by assumption) | exact dat_2b (by assumption) (by assumption) | exact dat_3 (by assumption) | exact dat_4a (by assumption) (by assumption) | exact dat_4b (by assumption) (by assumption) | exact dat_5 (by assumption) | exact dat_6 (by assumption) | exact dat_7 (by assumption) | exact dat_8 (by assumption) | exact dat_9 (by assumption) | exact dat_10 (by assumption) | exact dat_11a (by omega) (by assumption) | exact dat_11b (by omega) (by assumption) (by assumption) | exact dat_11c (by omega) (by assumption) (by assumption)) | exact dat_0 (by assumption)))))) only [↓wrap_true]
local macro_rules | `(tactic| walk_at "call ref") => `(tactic| (k_here; (with_reducible show wpAny _ _ (call (Value.ref 552) _) _ _ _); k_dflt (refine' use1 (date_spec _ _ _ _ _ _ _ _ _ _ ?hl78) ?k1a552c78 ?k2a552c78 ?k3a552c78 ?k4a552c78 ?k5a552c78 ?kKa552c78 ?kda552c78 ?kua552c78 ?kpa552c78 ?_; (case k1a552c78 => k_asm); (case k2a552c78 => k_asm); (case k3a552c78 => k_asm); (case k4a552c78 => k_asm); (case k5a552c78 => k_asm); (case hl78 => (repeat (first | with_reducible_and_instances exact List.Mem.head _ | with_reducible assumption | with_reducible_and_instances assumption | refine List.Mem.tail _ ?_))); (case kKa552c78 => first | exact rfl | assumption); (case kda552c78 => first | omega | ktr_room); (case kua552c78 => first | omega | ktr_units); (case kpa552c78 => first | trivial | assumption | omega | (constructor <;> omega) | k_extra "pre")); intro D9 vs9 c9 h9 tk9 F9 N9 l9 i9; (try simp only [AllLt, and_true] at l9); (try dsimp only); (try k_sweep); (try k_fold)))

end

-- P4
-- the plain laws: what from_jd computes is the ledger's date, and to_jd of the ledger's date is the day
theorem fours_day (c0 y0 : Int) (r : Int) : F4 r y0 + c0 = F4 r (foY c0 y0 r) + foC c0 y0 r := by
  have : FT c0 y0 r = F4 r y0 + c0 := rfl
  show F4 r y0 + c0 = F4 r (fyr (FT c0 y0 r) r) + (FT c0 y0 r - F4 r (fyr (FT c0 y0 r) r))
  omega
theorem lt13 {k : Nat} (h : k < 13) : k = 0 ∨ k = 1 ∨ k = 2 ∨ k = 3 ∨ k = 4 ∨ k = 5 ∨ k = 6 ∨ k = 7 ∨ k = 8 ∨ k = 9 ∨ k = 10 ∨ k = 11 ∨ k = 12 := by omega
theorem lt14 {k : Nat} (h : k < 14) : k = 0 ∨ k = 1 ∨ k = 2 ∨ k = 3 ∨ k = 4 ∨ k = 5 ∨ k = 6 ∨ k = 7 ∨ k = 8 ∨ k = 9 ∨ k = 10 ∨ k = 11 ∨ k = 12 ∨ k = 13 := by omega
-- twelve months of thirty days and one short month
theorem thr_30 {z c : Int} (hz : 0 < z) (h0 : 0 ≤ c) (h1 : c < 360 + z) (h2 : z ≤ 30) : (thr (c30 z) 1 c).1 = c / 30 + 1 ∧ (thr (c30 z) 1 c).2 = c % 30 := by
  obtain ⟨k, a1, a2, a3, a4, a5⟩ := thr_at (c30 z) 1 c h0 (by simp; omega)
  rw [a2, a3]
  rw [a3] at a4 a5
  rcases lt13 a1 with h | h | h | h | h | h | h | h | h | h | h | h | h <;> subst h <;> simp at a4 a5 ⊢ <;> omega
theorem eq3 {a b c a' b' c' : Int} (h1 : a = a') (h2 : b = b') (h3 : c = c') : [a, b, c] = [a', b', c'] := by rw [h1, h2, h3]
theorem eq2 {a b a' b' : Int} (h1 : a = a') (h2 : b = b') : [a, b] = [a', b'] := by rw [h1, h2]
theorem eq5 {a b c d e a' b' c' d' e' : Int} (h1 : a = a') (h2 : b = b') (h3 : c = c') (h4 : d = d') (h5 : e = e') : [a, b, c, d, e] = [a', b', c', d', e'] := by rw [h1, h2, h3, h4, h5]
-- what the years by fours give: the year, the day within it, and the two months' words
structure Fo (c0 y0 r y c : Int) : Prop where
  day : F4 r y0 + c0 = F4 r y + c
  h0 : 0 ≤ c
  leap : y % 4 = r → c < 366
  com : y % 4 ≠ r → c < 365
theorem fo_of (c0 y0 : Int) {r : Int} (hr : 0 ≤ r ∧ r ≤ 3) : Fo c0 y0 r (foY c0 y0 r) (foC c0 y0 r) := ⟨fours_day c0 y0 r, (fo_in c0 y0 hr).1, (fo_in c0 y0 hr).2.1, (fo_in c0 y0 hr).2.2⟩
theorem Fo.lt {c0 y0 r y c : Int} (h : Fo c0 y0 r y c) : c < 366 := by
  by_cases e : y % 4 = r
  · exact h.leap e
  · have := h.com e; omega
theorem fo_30 {c0 y0 r y c : Int} (h : Fo c0 y0 r y c) : thrL y c (c30 6) = [y, c / 30 + 1, c % 30 + 1] := by
  have t := thr_30 (z := 6) (by decide) h.h0 (by have := h.lt; omega) (by decide)
  unfold thrL
  rw [t.1, t.2]
-- coptic
theorem cop_num {n y c : Int} (h : Fo (n - 1825030) 1 3 y c) : ky n = y ∧ kyd n = c := by
  obtain ⟨e, h0, h1, h2⟩ := h
  unfold F4 at e
  have hy : ky n = y := by unfold ky; (by_cases h : y % 4 = 3; (have := h1 h; omega); (have := h2 h; omega))
  exact ⟨hy, by unfold kyd kj; rw [hy]; omega⟩
theorem told_3 (n : Int) : [ky n, km n, kd n] = dat3 n := by
  have f := fo_of (n - 1825030) 1 (r := 3) (by decide)
  obtain ⟨a, b⟩ := cop_num f
  unfold dat3
  rw [fo_30 f]
  have hk : km n = foC (n - 1825030) 1 3 / 30 + 1 := by unfold km; rw [b]
  refine eq3 a hk ?_
  unfold kd; rw [hk, b]; omega
theorem home_3 (n : Int) : kj ((dat3 n).getD 0 0) ((dat3 n).getD 1 0) ((dat3 n).getD 2 0) = n := by
  have f := fo_of (n - 1825030) 1 (r := 3) (by decide)
  unfold dat3
  rw [fo_30 f]
  obtain ⟨e, h0, h1, h2⟩ := f
  simp only [List.getD_cons_zero, List.getD_cons_succ]
  unfold F4 at e
  unfold kj
  omega
-- armenian
theorem told_6 {n : Int} (h : 1922868 ≤ n) : [ay n, am n, ad n] = dat6 n := by
  unfold dat6 thrL
  have t := thr_30 (z := 5) (c := (n - 1922868) % 365) (by decide) (by omega) (by omega) (by decide)
  rw [t.1, t.2]
  unfold ay am ad am0
  refine eq3 ?_ ?_ ?_ <;> omega
theorem home_6 {n : Int} (h : 1922868 ≤ n) : aj ((dat6 n).getD 0 0) ((dat6 n).getD 1 0) ((dat6 n).getD 2 0) = n ∧ aok ((dat6 n).getD 0 0) ((dat6 n).getD 1 0) ((dat6 n).getD 2 0) := by
  unfold dat6 thrL
  have t := thr_30 (z := 5) (c := (n - 1922868) % 365) (by decide) (by omega) (by omega) (by decide)
  rw [t.1, t.2]
  simp only [List.getD_cons_zero, List.getD_cons_succ]
  unfold aj
  refine ⟨by omega, by omega, by omega, by omega, by omega, by omega, by omega⟩
-- sarkawag
theorem told_7 {n : Int} (h : 2117212 ≤ n) : [sy n + 533, sm n, sdd n] = dat7 n := by
  have f := fo_of (n - 2117212) 533 (r := 0) (by decide)
  unfold dat7
  rw [fo_30 f]
  obtain ⟨e, h0, h1, h2⟩ := f
  generalize foY (n - 2117212) 533 0 = y at *
  generalize foC (n - 2117212) 533 0 = c at *
  unfold F4 at e
  have hb : sy n = y - 533 ∧ sd n = c + 1 := by
    unfold sy sd
    obtain ⟨q, hq⟩ : ∃ q, y = 4 * q ∨ y = 4 * q + 1 ∨ y = 4 * q + 2 ∨ y = 4 * q + 3 := ⟨y / 4, by omega⟩
    have hc : c < 366 ∧ (y % 4 ≠ 0 → c < 365) := ⟨by by_cases hh : y % 4 = 0; exact h1 hh; (have := h2 hh; omega), h2⟩
    clear h1 h2
    by_cases hz : sK n = 0
    · rw [if_pos hz, if_pos hz]
      unfold sK sY at hz
      unfold sY
      by_cases hl : 4 * (n - 2117211) / 1461 % 4 = 0
      · rw [if_pos hl]
        rcases hq with hq | hq | hq | hq <;> subst hq <;> obtain ⟨hc, hd⟩ := hc <;> omega
      · rw [if_neg hl]
        rcases hq with hq | hq | hq | hq <;> subst hq <;> obtain ⟨hc, hd⟩ := hc <;> omega
    · rw [if_neg hz, if_neg hz]
      unfold sK sY at *
      rcases hq with hq | hq | hq | hq <;> subst hq <;> obtain ⟨hc, hd⟩ := hc <;> omega
  unfold sm sdd
  rw [hb.1, hb.2]
  refine eq3 ?_ ?_ ?_ <;> omega
theorem home_7 {n : Int} (h : 2117212 ≤ n) : sj ((dat7 n).getD 0 0) ((dat7 n).getD 1 0) ((dat7 n).getD 2 0) = n ∧ sok ((dat7 n).getD 0 0) ((dat7 n).getD 1 0) ((dat7 n).getD 2 0) := by
  have f := fo_of (n - 2117212) 533 (r := 0) (by decide)
  unfold dat7
  rw [fo_30 f]
  obtain ⟨e, h0, h1, h2⟩ := f
  simp only [List.getD_cons_zero, List.getD_cons_succ]
  generalize foY (n - 2117212) 533 0 = y at *
  generalize foC (n - 2117212) 533 0 = c at *
  unfold F4 at e
  unfold sj
  by_cases hh : y % 4 = 0
  · have := h1 hh
    refine ⟨by omega, by omega, by omega, by omega, by omega, by omega, by omega⟩
  · have := h2 hh
    refine ⟨by omega, by omega, by omega, by omega, by omega, by omega, by omega⟩
-- french
theorem told_9 {n : Int} (h : 2375840 ≤ n) : [fy n, fm n, fd n] = dat9 n := by
  have f := fo_of (n - 2375840) 1 (r := 3) (by decide)
  unfold dat9
  rw [fo_30 f]
  obtain ⟨e, h0, h1, h2⟩ := f
  generalize foY (n - 2375840) 1 3 = y at *
  generalize foC (n - 2375840) 1 3 = c at *
  unfold F4 at e
  have hR : fR n = (n - 2375840 + 365) % 1461 := rfl
  have hb : fy n = y ∧ fk n = c := by
    unfold fy fk f4
    obtain ⟨q, hq⟩ : ∃ q, y = 4 * q ∨ y = 4 * q + 1 ∨ y = 4 * q + 2 ∨ y = 4 * q + 3 := ⟨y / 4, by omega⟩
    have hc : c < 366 ∧ (y % 4 ≠ 3 → c < 365) := ⟨by by_cases hh : y % 4 = 3; exact h1 hh; (have := h2 hh; omega), h2⟩
    clear h1 h2
    by_cases hz : fR n = 365 * 4
    · rw [if_pos hz, if_pos hz]
      rw [hR] at hz ⊢
      unfold fJ
      rcases hq with hq | hq | hq | hq <;> subst hq <;> obtain ⟨hc, hd⟩ := hc <;> omega
    · rw [if_neg hz, if_neg hz]
      rw [hR] at hz ⊢
      unfold fJ
      rcases hq with hq | hq | hq | hq <;> subst hq <;> obtain ⟨hc, hd⟩ := hc <;> omega
  unfold fm fd
  rw [hb.1, hb.2]
  refine eq3 ?_ ?_ ?_ <;> omega
theorem home_9 {n : Int} (h : 2375840 ≤ n) : fj ((dat9 n).getD 0 0) ((dat9 n).getD 1 0) ((dat9 n).getD 2 0) = n ∧ fok ((dat9 n).getD 0 0) ((dat9 n).getD 1 0) ((dat9 n).getD 2 0) := by
  have f := fo_of (n - 2375840) 1 (r := 3) (by decide)
  unfold dat9
  rw [fo_30 f]
  obtain ⟨e, h0, h1, h2⟩ := f
  simp only [List.getD_cons_zero, List.getD_cons_succ]
  generalize foY (n - 2375840) 1 3 = y at *
  generalize foC (n - 2375840) 1 3 = c at *
  unfold F4 at e
  unfold fj
  by_cases hh : y % 4 = 3
  · have := h1 hh
    refine ⟨by omega, by omega, by omega, by omega, by omega, by omega⟩
  · have := h2 hh
    refine ⟨by omega, by omega, by omega, by omega, by omega, by omega⟩
-- ordinal, mayan, hebrew
theorem told_1 (n : Int) : [cy n, yday n + 1] = dat1 n := rfl
theorem told_5 (n : Int) : [v1 n, v2 n, v3 n, v4 n, v5 n] = dat5 n := by
  unfold v1 v2 v3 v4 v5 dat5
  refine eq5 ?_ ?_ ?_ ?_ ?_ <;> omega
theorem home_5 (n : Int) : vj ((dat5 n).getD 0 0) ((dat5 n).getD 1 0) ((dat5 n).getD 2 0) ((dat5 n).getD 3 0) ((dat5 n).getD 4 0) = n := by
  simp only [List.getD_cons_zero, List.getD_cons_succ]
  unfold vj
  omega

-- P5
-- islamic
def IsOk (n y c : Int) : Prop := ∃ W p : Int, n = 1948440 + 10631 * W + 354 * p + (11 * p + 14) / 30 + c ∧ 0 ≤ p ∧ p ≤ 29 ∧ y = 30 * W + p + 1 ∧ 0 ≤ c ∧ c < 354 + ((11 * p + 25) / 30 - (11 * p + 14) / 30)
theorem is_dat (n : Int) : ∃ y c, dat2 n = thrL y c iz ∧ IsOk n y c := by
  obtain ⟨a, b⟩ := i_eq n
  have hp : iP n = (n - 1948440) % 10631 / 355 := rfl
  have hq := iP_in n
  by_cases h : iS n ≤ iC n
  · refine ⟨iW n + (iP n + 1) + 1, iC n - iS n, if_pos h, (n - 1948440) / 10631, iP n + 1, ?_⟩
    rw [a, b] at *
    unfold iW
    generalize iP n = P at *
    omega
  · refine ⟨iW n + iP n + 1, iC n, if_neg h, (n - 1948440) / 10631, iP n, ?_⟩
    rw [a, b] at *
    unfold iW
    generalize iP n = P at *
    omega
theorem thr_iz {c : Int} (h0 : 0 ≤ c) (h1 : c < 355) : ∃ m d : Int, thr iz 1 c = (m, d) ∧ 1 ≤ m ∧ m ≤ 12 ∧ 0 ≤ d ∧ c = -(-59 * (m - 1) / 2) + d ∧ (if -(-2 * (c - 29) / 59) + 1 < 12 then -(-2 * (c - 29) / 59) + 1 else 12) = m := by
  obtain ⟨k, a1, a2, a3, a4, a5⟩ := thr_at iz 1 c h0 (by simp; omega)
  refine ⟨(thr iz 1 c).1, (thr iz 1 c).2, rfl, ?_⟩
  rw [a2, a3]
  rw [a3] at a4 a5
  rcases lt12 a1 with h | h | h | h | h | h | h | h | h | h | h | h <;> subst h <;> simp at a4 a5 ⊢ <;> (try split) <;> omega
theorem ij_one {W p : Int} (m : Int) : ij (30 * W + p + 1) m 1 = 1948440 + 10631 * W + 354 * p + (11 * p + 14) / 30 + -(-59 * (m - 1) / 2) := by unfold ij; omega
theorem iy_eq {n y c : Int} (h : IsOk n y c) : iy n = y := by
  obtain ⟨W, p, e, p0, p1, ey, c0, c1⟩ := h
  unfold iy
  omega
theorem told_2 (n : Int) : [iy n, im n, idd n] = dat2 n := by
  obtain ⟨y, c, e, ok⟩ := is_dat n
  have ey := iy_eq ok
  obtain ⟨W, p, en, p0, p1, hy, c0, c1⟩ := ok
  obtain ⟨m, d, et, m1, m2, d0, ec, em⟩ := thr_iz (c := c) c0 (by omega)
  rw [e]
  unfold thrL
  rw [et]
  have h1 : n - (29 + ij (iy n) 1 1) = c - 29 := by rw [ey, hy, ij_one]; omega
  have hm : im n = m := by unfold im imx; rw [h1]; exact em
  refine eq3 ey hm ?_
  unfold idd
  rw [hm, ey, hy, ij_one]
  show _ = d + 1
  omega
theorem home_2 (n : Int) : ij ((dat2 n).getD 0 0) ((dat2 n).getD 1 0) ((dat2 n).getD 2 0) = n := by
  obtain ⟨y, c, e, ok⟩ := is_dat n
  obtain ⟨W, p, en, p0, p1, hy, c0, c1⟩ := ok
  obtain ⟨m, d, et, m1, m2, d0, ec, em⟩ := thr_iz (c := c) c0 (by omega)
  rw [e]
  unfold thrL
  rw [et]
  simp only [List.getD_cons_zero, List.getD_cons_succ]
  have := ij_one (W := W) (p := p) m
  rw [hy]
  unfold ij at *
  omega
-- julian
theorem jul_thr {y c : Int} (f : 0 ≤ c ∧ (y % 4 = 0 → c < 366) ∧ (y % 4 ≠ 0 → c < 365)) : ∃ m d : Int, thr (jz y) 1 c = (m, d) ∧ 1 ≤ m ∧ m ≤ 12 ∧ 0 ≤ d ∧ d < jml y m ∧ moff (y % 4 == 0) m + d = c := by
  have q := thr_greg (y % 4 == 0) (f := if (y % 4 == 0) = true then 29 else 28) (c := c) rfl f.1 (by
    by_cases h : y % 4 = 0
    · have := f.2.1 h; simp [h]; omega
    · have := f.2.2 h; simp [h]; omega) (p := thr (jz y) 1 c) rfl
  obtain ⟨q1, q2, q3, q4, q5⟩ := q
  have e : jml y (thr (jz y) 1 c).1 = mlenl (y % 4 == 0) (thr (jz y) 1 c).1 := by
    unfold jml mlenl
    by_cases h : y % 4 = 0 <;> simp [h]
  rw [← e] at q4
  exact ⟨(thr (jz y) 1 c).1, (thr (jz y) 1 c).2, rfl, q1, q2, q3, q4, q5⟩
theorem jul_dat (n : Int) : ∃ y m d : Int, dat0 n = [y, m, d + 1] ∧ 1 ≤ m ∧ m ≤ 12 ∧ 0 ≤ d ∧ d < jml y m ∧ n = 1721058 + 365 * y + (y + 3) / 4 + moff (y % 4 == 0) m + d := by
  have f := fo_of (n - 1721424) 1 (r := 0) (by decide)
  obtain ⟨e, h0, h1, h2⟩ := f
  obtain ⟨m, d, et, m1, m2, d0, d1, ec⟩ := jul_thr ⟨h0, h1, h2⟩
  refine ⟨foY (n - 1721424) 1 0, m, d, ?_, m1, m2, d0, d1, ?_⟩
  · unfold dat0 thrL; rw [et]
  · rw [← ec] at e
    generalize foY (n - 1721424) 1 0 = y at *
    unfold F4 at e
    omega
theorem home_0 (n : Int) : jj ((dat0 n).getD 0 0) ((dat0 n).getD 1 0) ((dat0 n).getD 2 0) = n ∧ 0 < (dat0 n).getD 2 0 ∧ (dat0 n).getD 2 0 ≤ jml ((dat0 n).getD 0 0) ((dat0 n).getD 1 0) := by
  obtain ⟨y, m, d, e, m1, m2, d0, d1, en⟩ := jul_dat n
  rw [e]
  simp only [List.getD_cons_zero, List.getD_cons_succ]
  refine ⟨?_, by omega, by omega⟩
  unfold jj moff at *
  have hl : (if (y % 4 == 0) = true then (-1 : Int) else -2) = (y + 4) / 4 - (y + 3) / 4 - 2 := by by_cases h : y % 4 = 0 <;> simp [h] <;> omega
  rw [hl] at en
  rcases twelve m1 m2 with h | h | h | h | h | h | h | h | h | h | h | h <;> subst h <;> simp at en ⊢ <;> omega
theorem jul_num {n y m d : Int} (m1 : 1 ≤ m) (m2 : m ≤ 12) (d0 : 0 ≤ d) (d1 : d < jml y m) (en : n = 1721058 + 365 * y + (y + 3) / 4 + moff (y % 4 == 0) m + d) :
    jC n = y + (if 2 < m then 4716 else 4715) ∧ jE n = (if 2 < m then m + 1 else m + 13) ∧ n + 1524 - 1461 * jC n / 4 - 306001 * jE n / 10000 = d + 1 := by
  have hl : (if (y % 4 == 0) = true then (-1 : Int) else -2) = (y + 4) / 4 - (y + 3) / 4 - 2 := by by_cases h : y % 4 = 0 <;> simp [h] <;> omega
  have hd : d ≤ 30 ∧ (m = 2 → d ≤ 28) ∧ (m = 2 → y % 4 ≠ 0 → d ≤ 27) ∧ (m = 4 ∨ m = 6 ∨ m = 9 ∨ m = 11 → d ≤ 29) := by
    unfold jml at d1
    repeat' split at d1
    all_goals (refine ⟨?_, ?_, ?_, ?_⟩ <;> intros <;> omega)
  unfold moff at en
  rw [hl] at en
  clear d1 hl
  have hC : jC n = y + (if 2 < m then 4716 else 4715) := by
    unfold jC
    obtain ⟨e1, e2, e3, e4⟩ := hd
    rcases twelve m1 m2 with h | h | h | h | h | h | h | h | h | h | h | h <;> subst h <;> simp at en e2 e3 ⊢ <;> (try omega)
  refine ⟨hC, ?_⟩
  obtain ⟨e1, e2, e3, e4⟩ := hd
  have hX : n + 1524 - 1461 * jC n / 4 = 306001 * (if 2 < m then m + 1 else m + 13) / 10000 + 1 + d := by
    rw [hC]
    clear e1 e2 e3 e4
    rcases twelve m1 m2 with h | h | h | h | h | h | h | h | h | h | h | h <;> subst h <;> simp at en ⊢ <;> omega
  unfold jE
  rw [hX]
  clear hX hC en
  rcases twelve m1 m2 with h | h | h | h | h | h | h | h | h | h | h | h <;> subst h <;> simp at e2 e3 e4 ⊢ <;> omega
theorem told_0 (n : Int) : [jy n, jm n, jd n] = dat0 n := by
  obtain ⟨y, m, d, e, m1, m2, d0, d1, en⟩ := jul_dat n
  obtain ⟨hC, hE, hD⟩ := jul_num m1 m2 d0 d1 en
  rw [e]
  have hm : jm n = m := by unfold jm; rw [hE]; by_cases h : 2 < m <;> simp only [h, if_true, if_false] <;> split <;> omega
  refine eq3 ?_ hm hD
  unfold jy
  rw [hm, hC]
  by_cases h : 2 < m <;> simp only [h, if_true, if_false] <;> omega

-- P6
-- indian
theorem nca_dys (y : Int) : dys y - 335 = nca (isleap y) := by unfold nca; rcases dys_cases y with ⟨h, e, _⟩ | ⟨h, e, _⟩ <;> simp [h, e]
theorem thr_nz {y c : Int} (h0 : 0 ≤ c) (h1 : c < dys y) : ∃ m d : Int, thr (nz y) 1 c = (m, d) ∧ 1 ≤ m ∧ m ≤ 12 ∧ 0 ≤ d ∧ m = (if c < nca (isleap y) then 1 else if c - nca (isleap y) < 155 then (c - nca (isleap y)) / 31 + 2 else (c - nca (isleap y) - 155) / 30 + 7) ∧
    d = (if c < nca (isleap y) then c else if c - nca (isleap y) < 155 then (c - nca (isleap y)) % 31 else (c - nca (isleap y) - 155) % 30) ∧
    c = d + (if m = 1 then 0 else if 8 ≤ m then nca (isleap y) + 155 + (m - 7) * 30 else nca (isleap y) + (if 5 < m - 2 then 5 else m - 2) * 31) := by
  obtain ⟨k, a1, a2, a3, a4, a5⟩ := thr_at (nz y) 1 c h0 (by rw [nz_sum]; exact h1)
  refine ⟨(thr (nz y) 1 c).1, (thr (nz y) 1 c).2, rfl, ?_⟩
  rw [a2, a3]
  rw [a3] at a4 a5
  have hz := nca_dys y
  have hz2 : nca (isleap y) = 30 ∨ nca (isleap y) = 31 := by unfold nca; split <;> simp
  unfold nz at a4 a5 ⊢
  rw [hz] at a4 a5 ⊢
  generalize nca (isleap y) = z at *
  clear hz
  rcases lt12 a1 with h | h | h | h | h | h | h | h | h | h | h | h <;> subst h <;> simp at a4 a5 ⊢ <;> (repeat' split) <;> omega
theorem nst_eq (y : Int) : nst y = jan1 (y + 78) + 80 := by
  unfold nst
  rw [gjd_off]
  unfold moff
  cases isleap (y + 78) <;> simp <;> omega
theorem nj_eq {y m d c : Int} (hc : c = d + (if m = 1 then 0 else if 8 ≤ m then nca (isleap (y + 78)) + 155 + (m - 7) * 30 else nca (isleap (y + 78)) + (if 5 < m - 2 then 5 else m - 2) * 31)) : nj y m (d + 1) = jan1 (y + 78) + 80 + c := by
  unfold nj
  rw [nst_eq]
  split
  · rename_i h; rw [if_pos h] at hc; omega
  · rename_i h
    rw [if_neg h] at hc
    split
    · rename_i h2; rw [if_pos h2] at hc; rw [if_pos (by omega)]; omega
    · rename_i h2; rw [if_neg h2] at hc; omega
theorem jan1_prev (y : Int) : jan1 y = jan1 (y - 1) + dys (y - 1) := by have := jan1_next (y - 1); rw [show y - 1 + 1 = y by omega] at this; exact this
theorem home_4 (n : Int) : nj ((dat4 n).getD 0 0) ((dat4 n).getD 1 0) ((dat4 n).getD 2 0) = n := by
  have hy := yday_lt n
  have he := yday_eq n
  unfold dat4
  by_cases h : yday n < 80
  · rw [if_pos h]
    have p := pre_4a h
    rw [nz_sum] at p
    obtain ⟨m, d, et, m1, m2, d0, em, ed, ec⟩ := thr_nz p.1 p.2
    unfold thrL
    rw [et]
    simp only [List.getD_cons_zero, List.getD_cons_succ]
    have e78 : cy n - 1 - 78 + 78 = cy n - 1 := by omega
    have := nj_eq (y := cy n - 1 - 78) (c := yday n + dys (cy n - 1) - 80) (m := m) (d := d) (by rw [e78]; exact ec)
    rw [this, e78]
    have := jan1_prev (cy n)
    omega
  · rw [if_neg h]
    have p := pre_4b h
    rw [nz_sum] at p
    obtain ⟨m, d, et, m1, m2, d0, em, ed, ec⟩ := thr_nz p.1 p.2
    unfold thrL
    rw [et]
    simp only [List.getD_cons_zero, List.getD_cons_succ]
    have e78 : cy n - 78 + 78 = cy n := by omega
    have := nj_eq (y := cy n - 78) (c := yday n - 80) (m := m) (d := d) (by rw [e78]; exact ec)
    rw [this, e78]
    omega
theorem told_4 (n : Int) : [ny n, nmm n, ndd n] = dat4 n := by
  have hy := yday_lt n
  unfold dat4 ny nmm ndd nk
  by_cases h : yday n < 80
  · rw [if_pos h, if_pos h, if_pos h]
    have p := pre_4a h
    rw [nz_sum] at p
    obtain ⟨m, d, et, m1, m2, d0, em, ed, ec⟩ := thr_nz p.1 p.2
    unfold thrL
    rw [et]
    have hz := nca_dys (cy n - 1)
    have hz2 : nca (isleap (cy n - 1)) = 30 ∨ nca (isleap (cy n - 1)) = 31 := by unfold nca; split <;> simp
    have hz3 : nca (isleap (cy n)) = 30 ∨ nca (isleap (cy n)) = 31 := by unfold nca; split <;> simp
    generalize nca (isleap (cy n - 1)) = z at *
    generalize nca (isleap (cy n)) = z' at *
    rw [if_neg (by omega), if_neg (by omega)] at em ed
    rw [if_neg (by omega), if_neg (by omega), if_neg (by omega), if_neg (by omega)]
    refine eq3 (by omega) ?_ ?_
    · omega
    · show _ = d + 1; omega
  · rw [if_neg h, if_neg h, if_neg h]
    have p := pre_4b h
    rw [nz_sum] at p
    obtain ⟨m, d, et, m1, m2, d0, em, ed, ec⟩ := thr_nz p.1 p.2
    unfold thrL
    rw [et]
    refine eq3 rfl em.symm ?_
    show _ = d + 1
    rw [ed]
    (repeat' split) <;> omega
-- positivist
theorem thr_28 {c : Int} (h0 : 0 ≤ c) (h1 : c < 366) : (thr [28, 28, 28, 28, 28, 28, 28, 28, 28, 28, 28, 28, 28, 2] 1 c).1 = c / 28 + 1 ∧ (thr [28, 28, 28, 28, 28, 28, 28, 28, 28, 28, 28, 28, 28, 2] 1 c).2 = c % 28 := by
  obtain ⟨k, a1, a2, a3, a4, a5⟩ := thr_at [28, 28, 28, 28, 28, 28, 28, 28, 28, 28, 28, 28, 28, 2] 1 c h0 (by simp; omega)
  rw [a2, a3]
  rw [a3] at a4 a5
  rcases lt14 a1 with h | h | h | h | h | h | h | h | h | h | h | h | h | h <;> subst h <;> simp at a4 a5 ⊢ <;> omega
theorem pos_last {n : Int} (h : pR n / 36524 = 4) : cy n % 400 = 0 ∧ cm n = 12 ∧ cd n = 31 := by
  have e : n - 1721426 = 146097 * (pE n / 146097) + 146096 := by unfold pR at h; unfold pE at *; omega
  have q := civ_only (y := 400 * (pE n / 146097) + 400) (m := 12) (d := 31) (n := n) ⟨by omega, by omega, by omega, by simp [mlen]⟩ (by
    rw [gjd_off]
    have l : isleap (400 * (pE n / 146097) + 400) = true := by rw [isleap_iff]; omega
    rw [l]
    unfold jan1 moff
    simp
    omega)
  obtain ⟨q1, q2, q3⟩ := q
  exact ⟨by omega, q2, q3⟩
theorem pos_eq {n : Int} (h : pR n / 36524 ≠ 4) : cy n = pyr n + 1 ∧ yday n = pyd n := by
  have e : cy n = pY n + (if pR n / 36524 = 4 ∨ pI n = 4 then 0 else 1) := rfl
  have b : 0 ≤ pR n ∧ pR n < 146097 := by unfold pR; omega
  have d : pE n = 146097 * (pE n / 146097) + pR n := by unfold pR; omega
  have hc : pR n / 36524 ≤ 3 := by omega
  have hk : pR n % 36524 / 1461 ≤ 24 := by omega
  rw [yday_eq]
  by_cases hi : pI n = 4
  · rw [if_pos (.inr hi)] at e
    unfold pyr pyd
    rw [if_pos hi, if_pos hi, e]
    refine ⟨by omega, ?_⟩
    unfold pY at *
    rw [hi]
    unfold pI at hi
    unfold jan1
    have e4 : (pE n / 146097 * 400 + pR n / 36524 * 100 + pR n % 36524 / 1461 * 4 + 4 + 0 - 1) / 4 = 100 * (pE n / 146097) + 25 * (pR n / 36524) + pR n % 36524 / 1461 := by omega
    have e100 : (pE n / 146097 * 400 + pR n / 36524 * 100 + pR n % 36524 / 1461 * 4 + 4 + 0 - 1) / 100 = 4 * (pE n / 146097) + pR n / 36524 := by omega
    have e400 : (pE n / 146097 * 400 + pR n / 36524 * 100 + pR n % 36524 / 1461 * 4 + 4 + 0 - 1) / 400 = pE n / 146097 := by omega
    rw [e4, e100, e400]
    unfold pE at *
    omega
  · rw [if_neg (fun h' => h'.elim h hi)] at e
    unfold pyr pyd
    rw [if_neg hi, if_neg hi, e]
    refine ⟨rfl, ?_⟩
    have hi3 : pI n ≤ 3 := by unfold pI at *; omega
    unfold pD pY at *
    unfold jan1
    have e0 : 0 ≤ pI n := by unfold pI; omega
    have e4 : (pE n / 146097 * 400 + pR n / 36524 * 100 + pR n % 36524 / 1461 * 4 + pI n + 1 - 1) / 4 = 100 * (pE n / 146097) + 25 * (pR n / 36524) + pR n % 36524 / 1461 := by omega
    have e100 : (pE n / 146097 * 400 + pR n / 36524 * 100 + pR n % 36524 / 1461 * 4 + pI n + 1 - 1) / 100 = 4 * (pE n / 146097) + pR n / 36524 := by omega
    have e400 : (pE n / 146097 * 400 + pR n / 36524 * 100 + pR n % 36524 / 1461 * 4 + pI n + 1 - 1) / 400 = pE n / 146097 := by omega
    rw [e4, e100, e400]
    have : pE n = n - 1721426 := rfl
    omega
theorem dat10_eq (n : Int) : dat10 n = [cy n - 1788, yday n / 28 + 1, yday n % 28 + 1] := by
  have := yday_lt n
  have := dys_in (cy n)
  have t := thr_28 (c := yday n) (by omega) (by omega)
  unfold dat10 thrL
  rw [t.1, t.2]
theorem told_10 {n : Int} (h : ¬ (cy n % 400 = 0 ∧ cm n = 12 ∧ cd n = 31)) : [py n, pm n, pd n] = dat10 n := by
  obtain ⟨e1, e2⟩ := pos_eq (n := n) (fun e => h (pos_last e))
  rw [dat10_eq, e1, e2]
  unfold py pm pd
  refine eq3 (by omega) rfl (by omega)
theorem home_10 {n : Int} (h : 2374480 ≤ n) : pj ((dat10 n).getD 0 0) ((dat10 n).getD 1 0) ((dat10 n).getD 2 0) = n ∧ pok ((dat10 n).getD 0 0) ((dat10 n).getD 1 0) ((dat10 n).getD 2 0) := by
  rw [dat10_eq]
  simp only [List.getD_cons_zero, List.getD_cons_succ]
  have a := yday_lt n
  have b := yday_eq n
  have c := dys_cases (cy n)
  have hy : 1789 ≤ cy n := by
    refine Int.not_lt.mp fun hl => ?_
    have p := (cy_in n).2
    have q := jan1_next_le (y := cy n) (z := 1789) hl
    have r : jan1 1789 = 2374480 := by decide
    omega
  have e : cy n - 1788 + 1789 - 1 = cy n := by omega
  refine ⟨?_, by omega, by omega, by omega, by omega, by omega, ?_⟩
  · unfold pj
    rw [e]
    unfold jan1 at b
    omega
  · rw [e]
    rcases c with ⟨c1, c2, _⟩ | ⟨c1, c2, _⟩
    · by_cases hm : yday n / 28 + 1 ≤ 13
      · exact .inl hm
      · exact .inr (.inl ⟨by omega, c1⟩)
    · by_cases hm : yday n / 28 + 1 ≤ 13
      · exact .inl hm
      · exact .inr (.inr ⟨by omega, c1⟩)
-- the week date
theorem wq_eq {n y p : Int} (hp : n - n % 7 + 3 = jan1 y + p) : ∃ q e : Int, p = 7 * q + e ∧ 0 ≤ e ∧ e ≤ 6 ∧ n - n % 7 = w1 y + 7 * q ∧ wq n y = q ∧ (n - w1 y) % 7 = n % 7 := by
  have hw : w1 y = (if 3 < jan1 y % 7 then jan1 y - jan1 y % 7 + 7 else jan1 y - jan1 y % 7) := by unfold w1; rw [gjd_jan1]
  refine ⟨(n - n % 7 - w1 y) / 7, p - 7 * ((n - n % 7 - w1 y) / 7), by omega, ?_⟩
  unfold wq
  generalize jan1 y = j at *
  split at hw <;> (rw [hw]; omega)
theorem wp_eq (n : Int) : n - n % 7 + 3 = jan1 (cy n) + wp n := by unfold wp; rw [yday_eq]; omega
theorem told_11 (n : Int) : [wy n (cy n), wk n (cy n), wd n (cy n)] = dat11 n := by
  have h := yday_lt n
  have hd := dys_in (cy n)
  have e := wp_eq n
  obtain ⟨q, f, a1, a2, a3, a4, a5, a6⟩ := wq_eq e
  have ep := jan1_prev (cy n)
  have en := jan1_next (cy n)
  have hwp : yday n - 3 ≤ wp n ∧ wp n ≤ yday n + 3 := by unfold wp; omega
  have hj := yday_eq n
  unfold dat11 wy wk wd
  rw [a5, a6]
  by_cases h1 : wp n < 0
  · obtain ⟨q', f', b1, b2, b3, b4, b5, b6⟩ := wq_eq (n := n) (y := cy n - 1) (p := wp n + dys (cy n - 1)) (by omega)
    rw [if_pos h1, if_pos (by omega), if_pos (by omega), if_pos (by omega), b5, b6]
    refine eq3 rfl (by omega) rfl
  · have hq : ¬ q < 0 := by omega
    rw [if_neg h1, if_neg hq, if_neg hq, if_neg hq]
    obtain ⟨q', f', b1, b2, b3, b4, b5, b6⟩ := wq_eq (n := n) (y := cy n + 1) (p := wp n - dys (cy n)) (by omega)
    by_cases h2 : dys (cy n) ≤ wp n
    · have hc : 52 ≤ q ∧ w1 (cy n + 1) ≤ n := by omega
      rw [if_pos h2, if_pos hc, if_pos hc]
      refine eq3 rfl (by omega) rfl
    · have hc : ¬ (52 ≤ q ∧ w1 (cy n + 1) ≤ n) := by omega
      rw [if_neg h2, if_neg hc, if_neg hc]
      refine eq3 rfl (by omega) rfl
theorem wj_eq {n y p : Int} (hp : n - n % 7 + 3 = jan1 y + p) : wj y (p / 7 + 1) (n % 7 + 1) = n := by
  have e : gjd (y - 1) 12 28 = jan1 y - 4 := by
    rw [jan1_prev y, gjd_off, dys_l]
    unfold moff
    cases isleap (y - 1) <;> simp <;> omega
  unfold wj wb
  rw [e]
  omega
theorem home_11 (n : Int) : wj ((dat11 n).getD 0 0) ((dat11 n).getD 1 0) ((dat11 n).getD 2 0) = n ∧ 0 < (dat11 n).getD 1 0 := by
  have h := yday_lt n
  have hd := dys_in (cy n - 1)
  have e := wp_eq n
  have ep := jan1_prev (cy n)
  have en := jan1_next (cy n)
  have hwp : yday n - 3 ≤ wp n ∧ wp n ≤ yday n + 3 := by unfold wp; omega
  unfold dat11
  by_cases h1 : wp n < 0
  · rw [if_pos h1]
    simp only [List.getD_cons_zero, List.getD_cons_succ]
    exact ⟨wj_eq (by omega), by omega⟩
  · rw [if_neg h1]
    by_cases h2 : dys (cy n) ≤ wp n
    · rw [if_pos h2]
      simp only [List.getD_cons_zero, List.getD_cons_succ]
      exact ⟨wj_eq (by omega), by omega⟩
    · rw [if_neg h2]
      simp only [List.getD_cons_zero, List.getD_cons_succ]
      exact ⟨wj_eq e, by omega⟩
-- ordinal, hebrew: the way home
theorem home_1 (n : Int) : (dat1 n).getD 0 0 = cy n ∧ (dat1 n).getD 1 0 = yday n + 1 := ⟨rfl, rfl⟩
theorem hT_ex {n : Int} : ∀ k : Nat, hT 1 ≤ n → n < hT (1 + k) → ∃ y, 1 ≤ y ∧ hT y ≤ n ∧ n < hT (y + 1)
  | 0, h1, h2 => absurd h2 (by simpa using Int.not_lt.mpr h1)
  | k + 1, h1, h2 => by
    by_cases h : n < hT (1 + k)
    · exact hT_ex k h1 h
    · exact ⟨1 + k, by omega, by omega, by rw [show (1 : Int) + k + 1 = 1 + ((k + 1 : Nat) : Int) by omega]; exact h2⟩
theorem heb_thr {n y : Int} (q4 : hT y ≤ n) (q5 : n < hT (y + 1)) : ∃ M D, HOK n y M D := by
  obtain ⟨k, a1, a2, a3, a4, a5⟩ := thr_at (hlsY y) 1 (n - hT y) (by omega) (by rw [hls_sum]; omega)
  have hy := hYr_eq q4 q5
  subst hy
  by_cases h : 360 < hT (hYr n + 1) - hT (hYr n)
  · rw [hls_a ⟨rfl, rfl, rfl, q4, q5⟩ h, hls_8, hls_9] at a1 a3 a4 a5
    exact ⟨_, _, heb_l q4 q5 ((hls_lp _).mp h) a1 a3 a4 a5⟩
  · rw [hls_b ⟨rfl, rfl, rfl, q4, q5⟩ h, hls_8, hls_9] at a1 a3 a4 a5
    exact ⟨_, _, heb_c q4 q5 (fun h' => h ((hls_lp _).mpr h')) a1 a3 a4 a5⟩
theorem home_8 {n : Int} (h : 347998 ≤ n) : hj ((dat8 n).getD 0 0) ((dat8 n).getD 1 0) ((dat8 n).getD 2 0) = n ∧ -100 ≤ (dat8 n).getD 0 0 ∧ 1 ≤ (dat8 n).getD 1 0 ∧ (dat8 n).getD 1 0 ≤ 13 ∧ 0 ≤ (dat8 n).getD 2 0 := by
  simp only [List.getD_cons_zero, List.getD_cons_succ]
  have h1 : hT 1 ≤ n := by rw [hT_one]; exact h
  have hm := hT_mono 1 (n - hT 1 + 1).toNat
  obtain ⟨y, y1, q4, q5⟩ := hT_ex (n := n) (n - hT 1 + 1).toNat h1 (by omega)
  obtain ⟨M, D, ok⟩ := heb_thr q4 q5
  obtain ⟨e1, e2, e3⟩ := ok.eq
  rw [← e1, ← e2, ← e3]
  have := hms_in y
  have := ok.m1
  have := ok.m2
  have := ok.d
  have := ok.d1
  refine ⟨?_, by omega, by omega, by omega, by omega⟩
  rw [hj_d]; omega

section

local macro_rules | `(tactic| walk_at "call ref") => `(tactic| (k_here; (with_reducible show wpAny _ _ (call (Value.ref 514) _) _ _ _); k_dflt (refine' use1 (civil_spec _ _ _) ?k1a514c79 ?k2a514c79 ?k3a514c79 ?k4a514c79 ?k5a514c79 ?kKa514c79 ?kda514c79 ?kua514c79 ?kpa514c79 ?_; (case k1a514c79 => k_asm); (case k2a514c79 => k_asm); (case k3a514c79 => k_asm); (case k4a514c79 => k_asm); (case k5a514c79 => k_asm); (case kKa514c79 => first | exact rfl | assumption); (case kda514c79 => first | omega | ktr_room); (case kua514c79 => first | omega | ktr_units); (case kpa514c79 => first | trivial | assumption | omega | (constructor <;> omega) | k_extra "pre")); intro D9 t91 t92 t93 c9 h9 tk9 F9 N9 l9; (try simp only [AllLt, and_true] at l9); (try dsimp only); (try k_sweep); (try k_fold)))

local macro_rules | `(tactic| walk_at "call ref") => `(tactic| (k_here; (with_reducible show wpAny _ _ (call (Value.ref 36) _) _ _ _); k_dflt (refine' use1 (trunc_spec _ _ _ _ _) ?k1a36c80 ?k2a36c80 ?k3a36c80 ?k4a36c80 ?k5a36c80 ?kKa36c80 ?kda36c80 ?kua36c80 ?kpa36c80 ?_; (case k1a36c80 => k_asm); (case k2a36c80 => k_asm); (case k3a36c80 => k_asm); (case k4a36c80 => k_asm); (case k5a36c80 => k_asm); (case kKa36c80 => first | exact rfl | assumption); (case kda36c80 => first | omega | ktr_room); (case kua36c80 => first | omega | ktr_units); (case kpa36c80 => first | omega | k_extra "pre")); intro t9 h9 tk9 F9 N9; (try dsimp only); (try k_sweep); (try k_fold)))
local macro_rules | `(tactic| walk_at "call ref") => `(tactic| (k_here; (with_reducible show wpAny _ _ (call (Value.ref 43) _) _ _ _); k_dflt (refine' use1 (midnight_spec _ _ _) ?k1a43c81 ?k2a43c81 ?k3a43c81 ?k4a43c81 ?k5a43c81 ?kKa43c81 ?kda43c81 ?kua43c81 ?kpa43c81 ?_; (case k1a43c81 => k_asm); (case k2a43c81 => k_asm); (case k3a43c81 => k_asm); (case k4a43c81 => k_asm); (case k5a43c81 => k_asm); (case kKa43c81 => first | exact rfl | assumption); (case kda43c81 => first | omega | ktr_room); (case kua43c81 => first | omega | ktr_units); (case kpa43c81 => first | omega | k_extra "pre")); intro t9 h9 tk9 F9 N9; (try dsimp only); (try k_sweep); (try k_fold)))
local macro_rules | `(tactic| walk_at "call ref") => `(tactic| (k_here; (with_reducible show wpAny _ _ (call (Value.ref 50) _) _ _ _); k_dflt (refine' use1 (jwday_spec _ _ _) ?k1a50c82 ?k2a50c82 ?k3a50c82 ?k4a50c82 ?k5a50c82 ?kKa50c82 ?kda50c82 ?kua50c82 ?kpa50c82 ?_; (case k1a50c82 => k_asm); (case k2a50c82 => k_asm); (case k3a50c82 => k_asm); (case k4a50c82 => k_asm); (case k5a50c82 => k_asm); (case kKa50c82 => first | exact rfl | assumption); (case kda50c82 => first | omega | ktr_room); (case kua50c82 => first | omega | ktr_units); (case kpa50c82 => first | trivial | assumption | omega | (constructor <;> omega) | k_extra "pre")); intro t9 h9 tk9 F9 N9; (try dsimp only); (try k_sweep); (try k_fold)))
local macro_rules | `(tactic| walk_at "call ref") => `(tactic| (k_here; (with_reducible show wpAny _ _ (call (Value.ref 57) _) _ _ _); k_dflt (refine' use1 (wb_spec _ _ _ _ _) ?k1a57c83 ?k2a57c83 ?k3a57c83 ?k4a57c83 ?k5a57c83 ?kKa57c83 ?kda57c83 ?kua57c83 ?kpa57c83 ?_; (case k1a57c83 => k_asm); (case k2a57c83 => k_asm); (case k3a57c83 => k_asm); (case k4a57c83 => k_asm); (case k5a57c83 => k_asm); (case kKa57c83 => first | exact rfl | assumption); (case kda57c83 => first | omega | ktr_room); (case kua57c83 => first | omega | ktr_units); (case kpa57c83 => first | trivial | assumption | omega | (constructor <;> omega) | k_extra "pre")); intro t9 h9 tk9 F9 N9; (try dsimp only); (try k_sweep); (try k_fold)))
local macro_rules | `(tactic| walk_at "call ref") => `(tactic| (k_here; (with_reducible show wpAny _ _ (call (Value.ref 64) _) _ _ _); k_dflt (refine' use1 (sw_spec _ _ _ _ _ _ _) ?k1a64c84 ?k2a64c84 ?k3a64c84 ?k4a64c84 ?k5a64c84 ?kKa64c84 ?kda64c84 ?kua64c84 ?kpa64c84 ?_; (case k1a64c84 => k_asm); (case k2a64c84 => k_asm); (case k3a64c84 => k_asm); (case k4a64c84 => k_asm); (case k5a64c84 => k_asm); (case kKa64c84 => first | exact rfl | assumption); (case kda64c84 => first | omega | ktr_room); (case kua64c84 => first | omega | ktr_units); (case kpa64c84 => first | trivial | assumption | omega | (constructor <;> omega) | k_extra "pre")); intro t9 h9 tk9 F9 N9; (try dsimp only); (try k_sweep); (try k_fold)))
local macro_rules | `(tactic| walk_at "call ref") => `(tactic| (k_here; (with_reducible show wpAny _ _ (call (Value.ref 78) _) _ _ _); k_dflt (refine' use1 (pw_spec _ _ _ _ _) ?k1a78c85 ?k2a78c85 ?k3a78c85 ?k4a78c85 ?k5a78c85 ?kKa78c85 ?kda78c85 ?kua78c85 ?kpa78c85 ?_; (case k1a78c85 => k_asm); (case k2a78c85 => k_asm); (case k3a78c85 => k_asm); (case k4a78c85 => k_asm); (case k5a78c85 => k_asm); (case kKa78c85 => first | exact rfl | assumption); (case kda78c85 => first | omega | ktr_room); (case kua78c85 => first | omega | ktr_units); (case kpa78c85 => first | trivial | assumption | omega | (constructor <;> omega) | k_extra "pre")); intro t9 h9 tk9 F9 N9; (try dsimp only); (try k_sweep); (try k_fold)))
local macro_rules | `(tactic| walk_at "call ref") => `(tactic| (k_here; (with_reducible show wpAny _ _ (call (Value.ref 85) _) _ _ _); k_dflt (refine' use1 (nweeks_spec _ _ _ _ _ _ _) ?k1a85c86 ?k2a85c86 ?k3a85c86 ?k4a85c86 ?k5a85c86 ?kKa85c86 ?kda85c86 ?kua85c86 ?kpa85c86 ?_; (case k1a85c86 => k_asm); (case k2a85c86 => k_asm); (case k3a85c86 => k_asm); (case k4a85c86 => k_asm); (case k5a85c86 => k_asm); (case kKa85c86 => first | exact rfl | assumption); (case kda85c86 => first | omega | ktr_room); (case kua85c86 => first | omega | ktr_units); (case kpa85c86 => first | trivial | assumption | omega | (constructor <;> omega) | k_extra "pre")); intro t9 h9 tk9 F9 N9; (try dsimp only); (try k_sweep); (try k_fold)))
local macro_rules | `(tactic| walk_at "call ref") => `(tactic| (k_here; (with_reducible show wpAny _ _ (call (Value.ref 29) _) _ _ _); k_dflt (refine' use1 (mrange_spec _ _ _ _ _) ?k1a29 ?k2a29 ?k3a29 ?k4a29 ?k5a29 ?kKa29 ?kda29 ?kua29 ?kpa29 ?_; (case k1a29 => k_asm); (case k2a29 => k_asm); (case k3a29 => k_asm); (case k4a29 => k_asm); (case k5a29 => k_asm); (case kKa29 => first | exact rfl | assumption); (case kda29 => first | omega | ktr_room); (case kua29 => first | omega | ktr_units); (case kpa29 => first | assumption | omega | k_extra "pre")); intro D9 b9 t91 t92 c9 h9 tk9 F9 N9 l9; (try simp only [AllLt, and_true] at l9); (try dsimp only); (try k_sweep); (try k_fold)))
local macro_rules | `(tactic| walk_at "call ref") => `(tactic| (k_here; (with_reducible show wpAny _ _ (call (Value.ref 114) _) _ _ _); k_dflt (refine' use1 (monthlen_spec _ _ _ _ _) ?k1a114c87 ?k2a114c87 ?k3a114c87 ?k4a114c87 ?k5a114c87 ?kKa114c87 ?kda114c87 ?kua114c87 ?kpa114c87 ?_; (case k1a114c87 => k_asm); (case k2a114c87 => k_asm); (case k3a114c87 => k_asm); (case k4a114c87 => k_asm); (case k5a114c87 => k_asm); (case kKa114c87 => first | exact rfl | assumption); (case kda114c87 => first | omega | ktr_room); (case kua114c87 => first | omega | ktr_units); (case kpa114c87 => first | trivial | assumption | omega | (constructor <;> omega) | k_extra "pre")); intro t9 h9 tk9 F9 N9; (try dsimp only); (try k_sweep); (try k_fold)))

local macro_rules | `(tactic| walk_at "call ref") => `(tactic| (k_here; (with_reducible show wpAny _ _ (call (Value.ref 121) _) _ _ _); k_dflt (refine' use1 (to_jd_ordinal_spec _ _ _ _ _) ?k1a121c88 ?k2a121c88 ?k3a121c88 ?k4a121c88 ?k5a121c88 ?kKa121c88 ?kda121c88 ?kua121c88 ?kpa121c88 ?_; (case k1a121c88 => k_asm); (case k2a121c88 => k_asm); (case k3a121c88 => k_asm); (case k4a121c88 => k_asm); (case k5a121c88 => k_asm); (case kKa121c88 => first | exact rfl | assumption); (case kda121c88 => first | omega | ktr_room); (case kua121c88 => first | omega | ktr_units); (case kpa121c88 => first | trivial | assumption | omega | (constructor <;> omega) | k_extra "pre")); intro t9 h9 tk9 F9 N9; (try dsimp only); (try k_sweep); (try k_fold)))
local macro_rules | `(tactic| walk_at "call ref") => `(tactic| (k_here; (with_reducible show wpAny _ _ (call (Value.ref 128) _) _ _ _); k_dflt (refine' use1 (from_jd_ordinal_spec _ _ _) ?k1a128c89 ?k2a128c89 ?k3a128c89 ?k4a128c89 ?k5a128c89 ?kKa128c89 ?kda128c89 ?kua128c89 ?kpa128c89 ?_; (case k1a128c89 => k_asm); (case k2a128c89 => k_asm); (case k3a128c89 => k_asm); (case k4a128c89 => k_asm); (case k5a128c89 => k_asm); (case kKa128c89 => first | exact rfl | assumption); (case kda128c89 => first | omega | ktr_room); (case kua128c89 => first | omega | ktr_units); (case kpa128c89 => first | trivial | assumption | omega | (constructor <;> omega) | k_extra "pre")); intro D9 t91 t92 c9 h9 tk9 F9 N9 l9; (try simp only [AllLt, and_true] at l9); (try dsimp only); (try k_sweep); (try k_fold)))
local macro_rules | `(tactic| walk_at "call ref") => `(tactic| (k_here; (with_reducible show wpAny _ _ (call (Value.ref 135) _) _ _ _); k_dflt (refine' use1 (fg_spec _ _ _ _ _ _ _) ?k1a135c90 ?k2a135c90 ?k3a135c90 ?k4a135c90 ?k5a135c90 ?kKa135c90 ?kda135c90 ?kua135c90 ?kpa135c90 ?_; (case k1a135c90 => k_asm); (case k2a135c90 => k_asm); (case k3a135c90 => k_asm); (case k4a135c90 => k_asm); (case k5a135c90 => k_asm); (case kKa135c90 => first | exact rfl | assumption); (case kda135c90 => first | omega | ktr_room); (case kua135c90 => first | omega | ktr_units); (case kpa135c90 => first | assumption | omega | k_extra "pre2")); intro D9 t91 t92 c9 h9 tk9 F9 N9 l9; (try simp only [AllLt, and_true] at l9); (try dsimp only); (try k_sweep); (try k_fold)))
local macro_rules | `(tactic| walk_at "call ref") => `(tactic| (k_here; (with_reducible show wpAny _ _ (call (Value.ref 142) _) _ _ _); k_dflt (refine' use1 (to_greg_ordinal_spec _ _ _ _) ?k1a142c91 ?k2a142c91 ?k3a142c91 ?k4a142c91 ?k5a142c91 ?kKa142c91 ?kda142c91 ?kua142c91 ?kpa142c91 ?_; (case k1a142c91 => k_asm); (case k2a142c91 => k_asm); (case k3a142c91 => k_asm); (case k4a142c91 => k_asm); (case k5a142c91 => k_asm); (case kKa142c91 => first | exact rfl | assumption); (case kda142c91 => first | omega | ktr_room); (case kua142c91 => first | omega | ktr_units); (case kpa142c91 => first | trivial | assumption | omega | (constructor <;> omega) | k_extra "pre")); intro D9 t91 t92 t93 c9 h9 tk9 F9 N9 l9; (try simp only [AllLt, and_true] at l9); (try dsimp only); (try k_sweep); (try k_fold)))

local macro_rules | `(tactic| walk_at "call ref") => `(tactic| (k_here; (with_reducible show wpAny _ _ (call (Value.ref 150) _) _ _ _); k_dflt (refine' use1 (jleap_spec _ _ _) ?k1a150c92 ?k2a150c92 ?k3a150c92 ?k4a150c92 ?k5a150c92 ?kKa150c92 ?kda150c92 ?kua150c92 ?kpa150c92 ?_; (case k1a150c92 => k_asm); (case k2a150c92 => k_asm); (case k3a150c92 => k_asm); (case k4a150c92 => k_asm); (case k5a150c92 => k_asm); (case kKa150c92 => first | exact rfl | assumption); (case kda150c92 => first | omega | ktr_room); (case kua150c92 => first | omega | ktr_units); (case kpa150c92 => first | trivial | assumption | omega | (constructor <;> omega) | k_extra "pre")); intro h9 tk9 F9 N9; (try dsimp only); (try k_sweep); (try k_fold)))
local macro_rules | `(tactic| walk_at "call ref") => `(tactic| (k_here; (with_reducible show wpAny _ _ (call (Value.ref 157) _) _ _ _); k_dflt (refine' use1 (jml_spec _ _ _ _ _) ?k1a157c93 ?k2a157c93 ?k3a157c93 ?k4a157c93 ?k5a157c93 ?kKa157c93 ?kda157c93 ?kua157c93 ?kpa157c93 ?_; (case k1a157c93 => k_asm); (case k2a157c93 => k_asm); (case k3a157c93 => k_asm); (case k4a157c93 => k_asm); (case k5a157c93 => k_asm); (case kKa157c93 => first | exact rfl | assumption); (case kda157c93 => first | omega | ktr_room); (case kua157c93 => first | omega | ktr_units); (case kpa157c93 => first | trivial | assumption | omega | (constructor <;> omega) | k_extra "pre")); intro t9 h9 tk9 F9 N9; (try dsimp only); (try k_sweep); (try k_fold)))
local macro_rules | `(tactic| walk_at "call ref") => `(tactic| (k_here; (with_reducible show wpAny _ _ (call (Value.ref 164) _) _ _ _); k_dflt (refine' use1 (jlegal_spec _ _ _ _ _ _ _) ?k1a164c94 ?k2a164c94 ?k3a164c94 ?k4a164c94 ?k5a164c94 ?kKa164c94 ?kda164c94 ?kua164c94 ?kpa164c94 ?_; (case k1a164c94 => k_asm); (case k2a164c94 => k_asm); (case k3a164c94 => k_asm); (case k4a164c94 => k_asm); (case k5a164c94 => k_asm); (case kKa164c94 => first | exact rfl | assumption); (case kda164c94 => first | omega | ktr_room); (case kua164c94 => first | omega | ktr_units); (case kpa164c94 => first | trivial | assumption | omega | (constructor <;> omega) | k_extra "pre")); intro h9 tk9 F9 N9; (try dsimp only); (try k_sweep); (try k_fold)))
local macro_rules | `(tactic| walk_at "call ref") => `(tactic| (k_here; (with_reducible show wpAny _ _ (call (Value.ref 171) _) _ _ _); k_dflt (refine' use1 (from_jd_julian_spec _ _ _) ?k1a171c95 ?k2a171c95 ?k3a171c95 ?k4a171c95 ?k5a171c95 ?kKa171c95 ?kda171c95 ?kua171c95 ?kpa171c95 ?_; (case k1a171c95 => k_asm); (case k2a171c95 => k_asm); (case k3a171c95 => k_asm); (case k4a171c95 => k_asm); (case k5a171c95 => k_asm); (case kKa171c95 => first | exact rfl | assumption); (case kda171c95 => first | omega | ktr_room); (case kua171c95 => first | omega | ktr_units); (case kpa171c95 => first | trivial | assumption | omega | (constructor <;> omega) | k_extra "pre")); intro D9 t91 t92 t93 c9 h9 tk9 F9 N9 l9; (try simp only [AllLt, and_true] at l9); (try dsimp only); (try k_sweep); (try k_fold)))
local macro_rules | `(tactic| walk_at "call ref") => `(tactic| (k_here; (with_reducible show wpAny _ _ (call (Value.ref 178) _) _ _ _); k_dflt (refine' use1 (to_jd_julian_spec _ _ _ _ _ _ _) ?k1a178c96 ?k2a178c96 ?k3a178c96 ?k4a178c96 ?k5a178c96 ?kKa178c96 ?kda178c96 ?kua178c96 ?kpa178c96 ?_; (case k1a178c96 => k_asm); (case k2a178c96 => k_asm); (case k3a178c96 => k_asm); (case k4a178c96 => k_asm); (case k5a178c96 => k_asm); (case kKa178c96 => first | exact rfl | assumption); (case kda178c96 => first | omega | ktr_room); (case kua178c96 => first | omega | ktr_units); (case kpa178c96 => first | trivial | assumption | omega | (constructor <;> omega) | k_extra "pre")); intro t9 h9 tk9 F9 N9; (try dsimp only); (try k_sweep); (try k_fold)))
local macro_rules | `(tactic| walk_at "call ref") => `(tactic| (k_here; (with_reducible show wpAny _ _ (call (Value.ref 185) _) _ _ _); k_dflt (refine' use1 (to_greg_julian_spec _ _ _ _ _ _ _) ?k1a185c97 ?k2a185c97 ?k3a185c97 ?k4a185c97 ?k5a185c97 ?kKa185c97 ?kda185c97 ?kua185c97 ?kpa185c97 ?_; (case k1a185c97 => k_asm); (case k2a185c97 => k_asm); (case k3a185c97 => k_asm); (case k4a185c97 => k_asm); (case k5a185c97 => k_asm); (case kKa185c97 => first | exact rfl | assumption); (case kda185c97 => first | omega | ktr_room); (case kua185c97 => first | omega | ktr_units); (case kpa185c97 => first | trivial | assumption | omega | (constructor <;> omega) | k_extra "pre")); intro D9 t91 t92 t93 c9 h9 tk9 F9 N9 l9; (try simp only [AllLt, and_true] at l9); (try dsimp only); (try k_sweep); (try k_fold)))
local macro_rules | `(tactic| walk_at "call ref") => `(tactic| (k_here; (with_reducible show wpAny _ _ (call (Value.ref 192) _) _ _ _); k_dflt (refine' use1 (to_jd_islamic_spec _ _ _ _ _ _ _) ?k1a192c98 ?k2a192c98 ?k3a192c98 ?k4a192c98 ?k5a192c98 ?kKa192c98 ?kda192c98 ?kua192c98 ?kpa192c98 ?_; (case k1a192c98 => k_asm); (case k2a192c98 => k_asm); (case k3a192c98 => k_asm); (case k4a192c98 => k_asm); (case k5a192c98 => k_asm); (case kKa192c98 => first | exact rfl | assumption); (case kda192c98 => first | omega | ktr_room); (case kua192c98 => first | omega | ktr_units); (case kpa192c98 => first | trivial | assumption | omega | (constructor <;> omega) | k_extra "pre")); intro t9 h9 tk9 F9 N9; (try dsimp only); (try k_sweep); (try k_fold)))
local macro_rules | `(tactic| walk_at "call ref") => `(tactic| (k_here; (with_reducible show wpAny _ _ (call (Value.ref 199) _) _ _ _); k_dflt (refine' use1 (from_jd_islamic_spec _ _ _) ?k1a199c99 ?k2a199c99 ?k3a199c99 ?k4a199c99 ?k5a199c99 ?kKa199c99 ?kda199c99 ?kua199c99 ?kpa199c99 ?_; (case k1a199c99 => k_asm); (case k2a199c99 => k_asm); (case k3a199c99 => k_asm); (case k4a199c99 => k_asm); (case k5a199c99 => k_asm); (case kKa199c99 => first | exact rfl | assumption); (case kda199c99 => first | omega | ktr_room); (case kua199c99 => first | omega | ktr_units); (case kpa199c99 => first | trivial | assumption | omega | (constructor <;> omega) | k_extra "pre")); intro D9 t91 t92 t93 c9 h9 tk9 F9 N9 l9; (try simp only [AllLt, and_true] at l9); (try dsimp only); (try k_sweep); (try k_fold)))
local macro_rules | `(tactic| walk_at "call ref") => `(tactic| (k_here; (with_reducible show wpAny _ _ (call (Value.ref 206) _) _ _ _); k_dflt (refine' use1 (to_greg_islamic_spec _ _ _ _ _ _ _) ?k1a206c100 ?k2a206c100 ?k3a206c100 ?k4a206c100 ?k5a206c100 ?kKa206c100 ?kda206c100 ?kua206c100 ?kpa206c100 ?_; (case k1a206c100 => k_asm); (case k2a206c100 => k_asm); (case k3a206c100 => k_asm); (case k4a206c100 => k_asm); (case k5a206c100 => k_asm); (case kKa206c100 => first | exact rfl | assumption); (case kda206c100 => first | omega | ktr_room); (case kua206c100 => first | omega | ktr_units); (case kpa206c100 => first | trivial | assumption | omega | (constructor <;> omega) | k_extra "pre")); intro D9 t91 t92 t93 c9 h9 tk9 F9 N9 l9; (try simp only [AllLt, and_true] at l9); (try dsimp only); (try k_sweep); (try k_fold)))
local macro_rules | `(tactic| walk_at "call ref") => `(tactic| (k_here; (with_reducible show wpAny _ _ (call (Value.ref 213) _) _ _ _); k_dflt (refine' use1 (to_jd_coptic_spec _ _ _ _ _ _ _) ?k1a213c101 ?k2a213c101 ?k3a213c101 ?k4a213c101 ?k5a213c101 ?kKa213c101 ?kda213c101 ?kua213c101 ?kpa213c101 ?_; (case k1a213c101 => k_asm); (case k2a213c101 => k_asm); (case k3a213c101 => k_asm); (case k4a213c101 => k_asm); (case k5a213c101 => k_asm); (case kKa213c101 => first | exact rfl | assumption); (case kda213c101 => first | omega | ktr_room); (case kua213c101 => first | omega | ktr_units); (case kpa213c101 => first | trivial | assumption | omega | (constructor <;> omega) | k_extra "pre")); intro t9 h9 tk9 F9 N9; (try dsimp only); (try k_sweep); (try k_fold)))
local macro_rules | `(tactic| walk_at "call ref") => `(tactic| (k_here; (with_reducible show wpAny _ _ (call (Value.ref 220) _) _ _ _); k_dflt (refine' use1 (from_jd_coptic_spec _ _ _) ?k1a220c102 ?k2a220c102 ?k3a220c102 ?k4a220c102 ?k5a220c102 ?kKa220c102 ?kda220c102 ?kua220c102 ?kpa220c102 ?_; (case k1a220c102 => k_asm); (case k2a220c102 => k_asm); (case k3a220c102 => k_asm); (case k4a220c102 => k_asm); (case k5a220c102 => k_asm); (case kKa220c102 => first | exact rfl | assumption); (case kda220c102 => first | omega | ktr_room); (case kua220c102 => first | omega | ktr_units); (case kpa220c102 => first | trivial | assumption | omega | (constructor <;> omega) | k_extra "pre")); intro D9 t91 t92 t93 c9 h9 tk9 F9 N9 l9; (try simp only [AllLt, and_true] at l9); (try dsimp only); (try k_sweep); (try k_fold)))
local macro_rules | `(tactic| walk_at "call ref") => `(tactic| (k_here; (with_reducible show wpAny _ _ (call (Value.ref 227) _) _ _ _); k_dflt (refine' use1 (to_greg_coptic_spec _ _ _ _ _ _ _) ?k1a227c103 ?k2a227c103 ?k3a227c103 ?k4a227c103 ?k5a227c103 ?kKa227c103 ?kda227c103 ?kua227c103 ?kpa227c103 ?_; (case k1a227c103 => k_asm); (case k2a227c103 => k_asm); (case k3a227c103 => k_asm); (case k4a227c103 => k_asm); (case k5a227c103 => k_asm); (case kKa227c103 => first | exact rfl | assumption); (case kda227c103 => first | omega | ktr_room); (case kua227c103 => first | omega | ktr_units); (case kpa227c103 => first | trivial | assumption | omega | (constructor <;> omega) | k_extra "pre")); intro D9 t91 t92 t93 c9 h9 tk9 F9 N9 l9; (try simp only [AllLt, and_true] at l9); (try dsimp only); (try k_sweep); (try k_fold)))

local macro_rules | `(tactic| walk_at "call ref") => `(tactic| (k_here; (with_reducible show wpAny _ _ (call (Value.ref 255) _) _ _ _); k_dflt (refine' use1 (to_jd_mayan_spec _ _ _ _ _ _ _ _ _ _ _) ?k1a255c104 ?k2a255c104 ?k3a255c104 ?k4a255c104 ?k5a255c104 ?kKa255c104 ?kda255c104 ?kua255c104 ?kpa255c104 ?_; (case k1a255c104 => k_asm); (case k2a255c104 => k_asm); (case k3a255c104 => k_asm); (case k4a255c104 => k_asm); (case k5a255c104 => k_asm); (case kKa255c104 => first | exact rfl | assumption); (case kda255c104 => first | omega | ktr_room); (case kua255c104 => first | omega | ktr_units); (case kpa255c104 => first | trivial | assumption | omega | (constructor <;> omega) | k_extra "pre")); intro t9 h9 tk9 F9 N9; (try dsimp only); (try k_sweep); (try k_fold)))
local macro_rules | `(tactic| walk_at "call ref") => `(tactic| (k_here; (with_reducible show wpAny _ _ (call (Value.ref 262) _) _ _ _); k_dflt (refine' use1 (from_jd_mayan_spec _ _ _) ?k1a262c105 ?k2a262c105 ?k3a262c105 ?k4a262c105 ?k5a262c105 ?kKa262c105 ?kda262c105 ?kua262c105 ?kpa262c105 ?_; (case k1a262c105 => k_asm); (case k2a262c105 => k_asm); (case k3a262c105 => k_asm); (case k4a262c105 => k_asm); (case k5a262c105 => k_asm); (case kKa262c105 => first | exact rfl | assumption); (case kda262c105 => first | omega | ktr_room); (case kua262c105 => first | omega | ktr_units); (case kpa262c105 => first | trivial | assumption | omega | (constructor <;> omega) | k_extra "pre")); intro D9 t91 t92 t93 t94 t95 c9 h9 tk9 F9 N9 l9; (try simp only [AllLt, and_true] at l9); (try dsimp only); (try k_sweep); (try k_fold)))
local macro_rules | `(tactic| walk_at "call ref") => `(tactic| (k_here; (with_reducible show wpAny _ _ (call (Value.ref 269) _) _ _ _); k_dflt (refine' use1 (to_greg_mayan_spec _ _ _ _ _ _ _ _ _ _ _) ?k1a269c106 ?k2a269c106 ?k3a269c106 ?k4a269c106 ?k5a269c106 ?kKa269c106 ?kda269c106 ?kua269c106 ?kpa269c106 ?_; (case k1a269c106 => k_asm); (case k2a269c106 => k_asm); (case k3a269c106 => k_asm); (case k4a269c106 => k_asm); (case k5a269c106 => k_asm); (case kKa269c106 => first | exact rfl | assumption); (case kda269c106 => first | omega | ktr_room); (case kua269c106 => first | omega | ktr_units); (case kpa269c106 => first | trivial | assumption | omega | (constructor <;> omega) | k_extra "pre")); intro D9 t91 t92 t93 c9 h9 tk9 F9 N9 l9; (try simp only [AllLt, and_true] at l9); (try dsimp only); (try k_sweep); (try k_fold)))
local macro_rules | `(tactic| walk_at "call ref") => `(tactic| (k_here; (with_reducible show wpAny _ _ (call (Value.ref 234) _) _ _ _); k_dflt (refine' use1 (to_jd_indian_spec _ _ _ _ _ _ _) ?k1a234c107 ?k2a234c107 ?k3a234c107 ?k4a234c107 ?k5a234c107 ?kKa234c107 ?kda234c107 ?kua234c107 ?kpa234c107 ?_; (case k1a234c107 => k_asm); (case k2a234c107 => k_asm); (case k3a234c107 => k_asm); (case k4a234c107 => k_asm); (case k5a234c107 => k_asm); (case kKa234c107 => first | exact rfl | assumption); (case kda234c107 => first | omega | ktr_room); (case kua234c107 => first | omega | ktr_units); (case kpa234c107 => first | trivial | assumption | omega | (constructor <;> omega) | k_extra "pre")); intro t9 h9 tk9 F9 N9; (try dsimp only); (try k_sweep); (try k_fold)))
local macro_rules | `(tactic| walk_at "call ref") => `(tactic| (k_here; (with_reducible show wpAny _ _ (call (Value.ref 241) _) _ _ _); k_dflt (refine' use1 (from_jd_indian_spec _ _ _) ?k1a241c108 ?k2a241c108 ?k3a241c108 ?k4a241c108 ?k5a241c108 ?kKa241c108 ?kda241c108 ?kua241c108 ?kpa241c108 ?_; (case k1a241c108 => k_asm); (case k2a241c108 => k_asm); (case k3a241c108 => k_asm); (case k4a241c108 => k_asm); (case k5a241c108 => k_asm); (case kKa241c108 => first | exact rfl | assumption); (case kda241c108 => first | omega | ktr_room); (case kua241c108 => first | omega | ktr_units); (case kpa241c108 => first | trivial | assumption | omega | (constructor <;> omega) | k_extra "pre")); intro D9 t91 t92 t93 c9 h9 tk9 F9 N9 l9; (try simp only [AllLt, and_true] at l9); (try dsimp only); (try k_sweep); (try k_fold)))
local macro_rules | `(tactic| walk_at "call ref") => `(tactic| (k_here; (with_reducible show wpAny _ _ (call (Value.ref 248) _) _ _ _); k_dflt (refine' use1 (to_greg_indian_spec _ _ _ _ _ _ _) ?k1a248c109 ?k2a248c109 ?k3a248c109 ?k4a248c109 ?k5a248c109 ?kKa248c109 ?kda248c109 ?kua248c109 ?kpa248c109 ?_; (case k1a248c109 => k_asm); (case k2a248c109 => k_asm); (case k3a248c109 => k_asm); (case k4a248c109 => k_asm); (case k5a248c109 => k_asm); (case kKa248c109 => first | exact rfl | assumption); (case kda248c109 => first | omega | ktr_room); (case kua248c109 => first | omega | ktr_units); (case kpa248c109 => first | trivial | assumption | omega | (constructor <;> omega) | k_extra "pre")); intro D9 t91 t92 t93 c9 h9 tk9 F9 N9 l9; (try simp only [AllLt, and_true] at l9); (try dsimp only); (try k_sweep); (try k_fold)))

local macro_rules | `(tactic| walk_at "exec Try") => `(tactic| (k_here; k_extra "try"; k_dflt (refine tryP ?_); (try k_fold)))
local macro_rules | `(tactic| walk_at "call ref") => `(tactic| (k_here; (with_reducible show wpAny _ _ (call (Value.ref 284) _) _ _ _); k_dflt (refine' use1 (aleap_spec _ _ _) ?k1a284c110 ?k2a284c110 ?k3a284c110 ?k4a284c110 ?k5a284c110 ?kKa284c110 ?kda284c110 ?kua284c110 ?kpa284c110 ?_; (case k1a284c110 => k_asm); (case k2a284c110 => k_asm); (case k3a284c110 => k_asm); (case k4a284c110 => k_asm); (case k5a284c110 => k_asm); (case kKa284c110 => first | exact rfl | assumption); (case kda284c110 => first | omega | ktr_room); (case kua284c110 => first | omega | ktr_units); (case kpa284c110 => first | trivial | assumption | omega | (constructor <;> omega) | k_extra "pre")); intro h9 tk9 F9 N9; (try dsimp only); (try k_sweep); (try k_fold)))
local macro_rules | `(tactic| walk_at "call ref") => `(tactic| (k_here; (with_reducible show wpAny _ _ (call (Value.ref 277) _) _ _ _); k_dflt (refine' use1 (avalid_spec _ _ _ _ _ _ _) ?k1a277c111 ?k2a277c111 ?k3a277c111 ?k4a277c111 ?k5a277c111 ?kKa277c111 ?kda277c111 ?kua277c111 ?kpa277c111 ?_; (case k1a277c111 => k_asm); (case k2a277c111 => k_asm); (case k3a277c111 => k_asm); (case k4a277c111 => k_asm); (case k5a277c111 => k_asm); (case kKa277c111 => first | exact rfl | assumption); (case kda277c111 => first | omega | ktr_room); (case kua277c111 => first | omega | ktr_units); (case kpa277c111 => first | trivial | assumption | omega | (constructor <;> omega) | k_extra "pre")); intro h9 tk9 F9 N9; (try dsimp only); (try k_sweep); (try k_fold)))
local macro_rules | `(tactic| walk_at "call ref") => `(tactic| (k_here; (with_reducible show wpAny _ _ (call (Value.ref 277) _) _ _ _); k_dflt (refine' use1 (svalid_spec _ _ _ _ _ _ _ _) ?k1a277c112 ?k2a277c112 ?k3a277c112 ?k4a277c112 ?k5a277c112 ?kKa277c112 ?kda277c112 ?kua277c112 ?kpa277c112 ?_; (case k1a277c112 => k_asm); (case k2a277c112 => k_asm); (case k3a277c112 => k_asm); (case k4a277c112 => k_asm); (case k5a277c112 => k_asm); (case kKa277c112 => first | exact rfl | assumption); (case kda277c112 => first | omega | ktr_room); (case kua277c112 => first | omega | ktr_units); (case kpa277c112 => first | trivial | assumption | omega | (constructor <;> omega) | k_extra "pre")); intro h9 tk9 F9 N9; (try dsimp only); (try k_sweep); (try k_fold)))
local macro_rules | `(tactic| walk_at "call ref") => `(tactic| (k_here; (with_reducible show wpAny _ _ (call (Value.ref 292) _) _ _ _); k_dflt (refine' use1 (to_jd_arm_spec _ _ _ _ _ _ _) ?k1a292c113 ?k2a292c113 ?k3a292c113 ?k4a292c113 ?k5a292c113 ?kKa292c113 ?kda292c113 ?kua292c113 ?kpa292c113 ?_; (case k1a292c113 => k_asm); (case k2a292c113 => k_asm); (case k3a292c113 => k_asm); (case k4a292c113 => k_asm); (case k5a292c113 => k_asm); (case kKa292c113 => first | exact rfl | assumption); (case kda292c113 => first | omega | ktr_room); (case kua292c113 => first | omega | ktr_units); (case kpa292c113 => first | trivial | assumption | omega | (constructor <;> omega) | k_extra "pre")); intro t9 h9 tk9 F9 N9; (try dsimp only); (try k_sweep); (try k_fold)))
local macro_rules | `(tactic| walk_at "call ref") => `(tactic| (k_here; (with_reducible show wpAny _ _ (call (Value.ref 292) _) _ _ _); k_dflt (refine' use1 (to_jd_sark_spec _ _ _ _ _ _ _ _) ?k1a292c114 ?k2a292c114 ?k3a292c114 ?k4a292c114 ?k5a292c114 ?kKa292c114 ?kda292c114 ?kua292c114 ?kpa292c114 ?_; (case k1a292c114 => k_asm); (case k2a292c114 => k_asm); (case k3a292c114 => k_asm); (case k4a292c114 => k_asm); (case k5a292c114 => k_asm); (case kKa292c114 => first | exact rfl | assumption); (case kda292c114 => first | omega | ktr_room); (case kua292c114 => first | omega | ktr_units); (case kpa292c114 => first | trivial | assumption | omega | (constructor <;> omega) | k_extra "pre")); intro t9 h9 tk9 F9 N9; (try dsimp only); (try k_sweep); (try k_fold)))
local macro_rules | `(tactic| walk_at "call ref") => `(tactic| (k_here; (with_reducible show wpAny _ _ (call (Value.ref 308) _) _ _ _); k_dflt (refine' use1 (to_greg_arm_spec _ _ _ _ _ _ _) ?k1a308c115 ?k2a308c115 ?k3a308c115 ?k4a308c115 ?k5a308c115 ?kKa308c115 ?kda308c115 ?kua308c115 ?kpa308c115 ?_; (case k1a308c115 => k_asm); (case k2a308c115 => k_asm); (case k3a308c115 => k_asm); (case k4a308c115 => k_asm); (case k5a308c115 => k_asm); (case kKa308c115 => first | exact rfl | assumption); (case kda308c115 => first | omega | ktr_room); (case kua308c115 => first | omega | ktr_units); (case kpa308c115 => first | trivial | assumption | omega | (constructor <;> omega) | k_extra "pre")); intro D9 t91 t92 t93 c9 h9 tk9 F9 N9 l9; (try simp only [AllLt, and_true] at l9); (try dsimp only); (try k_sweep); (try k_fold)))
local macro_rules | `(tactic| walk_at "call ref") => `(tactic| (k_here; (with_reducible show wpAny _ _ (call (Value.ref 308) _) _ _ _); k_dflt (refine' use1 (to_greg_sark_spec _ _ _ _ _ _ _ _) ?k1a308c116 ?k2a308c116 ?k3a308c116 ?k4a308c116 ?k5a308c116 ?kKa308c116 ?kda308c116 ?kua308c116 ?kpa308c116 ?_; (case k1a308c116 => k_asm); (case k2a308c116 => k_asm); (case k3a308c116 => k_asm); (case k4a308c116 => k_asm); (case k5a308c116 => k_asm); (case kKa308c116 => first | exact rfl | assumption); (case kda308c116 => first | omega | ktr_room); (case kua308c116 => first | omega | ktr_units); (case kpa308c116 => first | trivial | assumption | omega | (constructor <;> omega) | k_extra "pre")); intro D9 t91 t92 t93 c9 h9 tk9 F9 N9 l9; (try simp only [AllLt, and_true] at l9); (try dsimp only); (try k_sweep); (try k_fold)))
local macro_rules | `(tactic| walk_at "call ref") => `(tactic| (k_here; (with_reducible show wpAny _ _ (call (Value.ref 300) _) _ _ _); k_dflt (refine' use1 (from_jd_arm_spec _ _ _) ?k1a300c117 ?k2a300c117 ?k3a300c117 ?k4a300c117 ?k5a300c117 ?kKa300c117 ?kda300c117 ?kua300c117 ?kpa300c117 ?_; (case k1a300c117 => k_asm); (case k2a300c117 => k_asm); (case k3a300c117 => k_asm); (case k4a300c117 => k_asm); (case k5a300c117 => k_asm); (case kKa300c117 => first | exact rfl | assumption); (case kda300c117 => first | omega | ktr_room); (case kua300c117 => first | omega | ktr_units); (case kpa300c117 => first | trivial | assumption | omega | (constructor <;> omega) | k_extra "pre")); intro D9 t91 t92 t93 c9 h9 tk9 F9 N9 l9; (try simp only [AllLt, and_true] at l9); (try dsimp only); (try k_sweep); (try k_fold)))
local macro_rules | `(tactic| walk_at "call ref") => `(tactic| (k_here; (with_reducible show wpAny _ _ (call (Value.ref 300) _) _ _ _); k_dflt (refine' use1 (from_jd_sark_spec _ _ _ _) ?k1a300c118 ?k2a300c118 ?k3a300c118 ?k4a300c118 ?k5a300c118 ?kKa300c118 ?kda300c118 ?kua300c118 ?kpa300c118 ?_; (case k1a300c118 => k_asm); (case k2a300c118 => k_asm); (case k3a300c118 => k_asm); (case k4a300c118 => k_asm); (case k5a300c118 => k_asm); (case kKa300c118 => first | exact rfl | assumption); (case kda300c118 => first | omega | ktr_room); (case kua300c118 => first | omega | ktr_units); (case kpa300c118 => first | trivial | assumption | omega | (constructor <;> omega) | k_extra "pre")); intro D9 t91 t92 t93 c9 h9 tk9 F9 N9 l9; (try simp only [AllLt, and_true] at l9); (try dsimp only); (try k_sweep); (try k_fold)))

local macro_rules | `(tactic| walk_at "call ref") => `(tactic| (k_here; (with_reducible show wpAny _ _ (call (Value.ref 459) _) _ _ _); k_dflt (refine' use1 (to_jd_iso_spec _ _ _ _ _ _ _) ?k1a459c119 ?k2a459c119 ?k3a459c119 ?k4a459c119 ?k5a459c119 ?kKa459c119 ?kda459c119 ?kua459c119 ?kpa459c119 ?_; (case k1a459c119 => k_asm); (case k2a459c119 => k_asm); (case k3a459c119 => k_asm); (case k4a459c119 => k_asm); (case k5a459c119 => k_asm); (case kKa459c119 => first | exact rfl | assumption); (case kda459c119 => first | omega | ktr_room); (case kua459c119 => first | omega | ktr_units); (case kpa459c119 => first | trivial | assumption | omega | (constructor <;> omega) | k_extra "pre")); intro t9 h9 tk9 F9 N9; (try dsimp only); (try k_sweep); (try k_fold)))
local macro_rules | `(tactic| walk_at "call ref") => `(tactic| (k_here; (with_reducible show wpAny _ _ (call (Value.ref 473) _) _ _ _); k_dflt (refine' use1 (w1_spec _ _ _) ?k1a473c120 ?k2a473c120 ?k3a473c120 ?k4a473c120 ?k5a473c120 ?kKa473c120 ?kda473c120 ?kua473c120 ?kpa473c120 ?_; (case k1a473c120 => k_asm); (case k2a473c120 => k_asm); (case k3a473c120 => k_asm); (case k4a473c120 => k_asm); (case k5a473c120 => k_asm); (case kKa473c120 => first | exact rfl | assumption); (case kda473c120 => first | omega | ktr_room); (case kua473c120 => first | omega | ktr_units); (case kpa473c120 => first | trivial | assumption | omega | (constructor <;> omega) | k_extra "pre")); intro t9 h9 tk9 F9 N9; (try dsimp only); (try k_sweep); (try k_fold)))
local macro_rules | `(tactic| walk_at "call ref") => `(tactic| (k_here; (with_reducible show wpAny _ _ (call (Value.ref 480) _) _ _ _); k_dflt (refine' use1 (fgi_spec _ _ _ _ _ _ _) ?k1a480c121 ?k2a480c121 ?k3a480c121 ?k4a480c121 ?k5a480c121 ?kKa480c121 ?kda480c121 ?kua480c121 ?kpa480c121 ?_; (case k1a480c121 => k_asm); (case k2a480c121 => k_asm); (case k3a480c121 => k_asm); (case k4a480c121 => k_asm); (case k5a480c121 => k_asm); (case kKa480c121 => first | exact rfl | assumption); (case kda480c121 => first | omega | ktr_room); (case kua480c121 => first | omega | ktr_units); (case kpa480c121 => first | trivial | assumption | omega | (constructor <;> omega) | k_extra "pre")); intro D9 t91 t92 t93 c9 h9 tk9 F9 N9 l9; (try simp only [AllLt, and_true] at l9); (try dsimp only); (try k_sweep); (try k_fold)))
local macro_rules | `(tactic| walk_at "call ref") => `(tactic| (k_here; (with_reducible show wpAny _ _ (call (Value.ref 466) _) _ _ _); k_dflt (refine' use1 (from_jd_iso_spec _ _ _) ?k1a466c122 ?k2a466c122 ?k3a466c122 ?k4a466c122 ?k5a466c122 ?kKa466c122 ?kda466c122 ?kua466c122 ?kpa466c122 ?_; (case k1a466c122 => k_asm); (case k2a466c122 => k_asm); (case k3a466c122 => k_asm); (case k4a466c122 => k_asm); (case k5a466c122 => k_asm); (case kKa466c122 => first | exact rfl | assumption); (case kda466c122 => first | omega | ktr_room); (case kua466c122 => first | omega | ktr_units); (case kpa466c122 => first | trivial | assumption | omega | (constructor <;> omega) | k_extra "pre")); intro D9 t91 t92 t93 c9 h9 tk9 F9 N9 l9; (try simp only [AllLt, and_true] at l9); (try dsimp only); (try k_sweep); (try k_fold)))
local macro_rules | `(tactic| walk_at "call ref") => `(tactic| (k_here; (with_reducible show wpAny _ _ (call (Value.ref 487) _) _ _ _); k_dflt (refine' use1 (to_greg_iso_spec _ _ _ _ _ _ _) ?k1a487c123 ?k2a487c123 ?k3a487c123 ?k4a487c123 ?k5a487c123 ?kKa487c123 ?kda487c123 ?kua487c123 ?kpa487c123 ?_; (case k1a487c123 => k_asm); (case k2a487c123 => k_asm); (case k3a487c123 => k_asm); (case k4a487c123 => k_asm); (case k5a487c123 => k_asm); (case kKa487c123 => first | exact rfl | assumption); (case kda487c123 => first | omega | ktr_room); (case kua487c123 => first | omega | ktr_units); (case kpa487c123 => first | trivial | assumption | omega | (constructor <;> omega) | k_extra "pre")); intro D9 t91 t92 t93 c9 h9 tk9 F9 N9 l9; (try simp only [AllLt, and_true] at l9); (try dsimp only); (try k_sweep); (try k_fold)))

local macro_rules | `(tactic| walk_at "compareOp In str ref") => `(tactic| (k_here; k_dflt (first
  | (refine' in_two true ?ziN ?zim ?zie ?_; (case ziN => k_asm); (case zim => k_mem); (case zie => kernel_rfl!))
  | (refine' in_two false ?zjN ?zjm ?zje ?_; (case zjN => k_asm); (case zjm => k_mem); (case zje => kernel_rfl!)))))
local macro_rules | `(tactic| walk_at "call ref") => `(tactic| (k_here; (with_reducible show wpAny _ _ (call (Value.ref 386) _ _) _ _ _); k_dflt (refine' useK (fleap_spec _ _ _ _) ?k1ak386c124 ?k2ak386c124 ?k3ak386c124 ?k4ak386c124 ?k5ak386c124 ?kKak386c124 ?kdak386c124 ?kuak386c124 ?kpak386c124 ?_; (case k1ak386c124 => k_asm); (case k2ak386c124 => k_asm); (case k3ak386c124 => k_asm); (case k4ak386c124 => k_asm); (case k5ak386c124 => k_asm); (case kKak386c124 => first | exact rfl | assumption); (case kdak386c124 => first | omega | ktr_room); (case kuak386c124 => first | omega | ktr_units); (case kpak386c124 => first | trivial | assumption | omega | (constructor <;> omega) | k_extra "pre")); intro h9 tk9 F9 N9; (try dsimp only); (try k_sweep); (try k_fold)))
local macro_rules | `(tactic| walk_at "call ref") => `(tactic| (k_here; (with_reducible show wpAny _ _ (call (Value.ref 401) _) _ _ _); k_dflt (refine' use1 (fts_spec _ _ _ _ _ _ _ _) ?k1a401c125 ?k2a401c125 ?k3a401c125 ?k4a401c125 ?k5a401c125 ?kKa401c125 ?kda401c125 ?kua401c125 ?kpa401c125 ?_; (case k1a401c125 => k_asm); (case k2a401c125 => k_asm); (case k3a401c125 => k_asm); (case k4a401c125 => k_asm); (case k5a401c125 => k_asm); (case kKa401c125 => first | exact rfl | assumption); (case kda401c125 => first | omega | ktr_room); (case kua401c125 => first | omega | ktr_units); (case kpa401c125 => first | trivial | assumption | omega | (constructor <;> omega) | k_extra "pre")); intro t9 h9 tk9 F9 N9; (try dsimp only); (try k_sweep); (try k_fold)))
local macro_rules | `(tactic| walk_at "call ref") => `(tactic| (k_here; (with_reducible show wpAny _ _ (call (Value.ref 394) _ _) _ _ _); k_dflt (refine' useK (to_jd_french_spec _ _ _ _ _ _ _ _) ?k1ak394c126 ?k2ak394c126 ?k3ak394c126 ?k4ak394c126 ?k5ak394c126 ?kKak394c126 ?kdak394c126 ?kuak394c126 ?kpak394c126 ?_; (case k1ak394c126 => k_asm); (case k2ak394c126 => k_asm); (case k3ak394c126 => k_asm); (case k4ak394c126 => k_asm); (case k5ak394c126 => k_asm); (case kKak394c126 => first | exact rfl | assumption); (case kdak394c126 => first | omega | ktr_room); (case kuak394c126 => first | omega | ktr_units); (case kpak394c126 => first | trivial | assumption | omega | (constructor <;> omega) | k_extra "pre")); intro t9 h9 tk9 F9 N9; (try dsimp only); (try k_sweep); (try k_fold)))
local macro_rules | `(tactic| walk_at "call ref") => `(tactic| (k_here; (with_reducible show wpAny _ _ (call (Value.ref 424) _) _ _ _); k_dflt (refine' use1 (to_greg_french_spec _ _ _ _ _ _ _ _) ?k1a424c127 ?k2a424c127 ?k3a424c127 ?k4a424c127 ?k5a424c127 ?kKa424c127 ?kda424c127 ?kua424c127 ?kpa424c127 ?_; (case k1a424c127 => k_asm); (case k2a424c127 => k_asm); (case k3a424c127 => k_asm); (case k4a424c127 => k_asm); (case k5a424c127 => k_asm); (case kKa424c127 => first | exact rfl | assumption); (case kda424c127 => first | omega | ktr_room); (case kua424c127 => first | omega | ktr_units); (case kpa424c127 => first | trivial | assumption | omega | (constructor <;> omega) | k_extra "pre")); intro D9 t91 t92 t93 c9 h9 tk9 F9 N9 l9; (try simp only [AllLt, and_true] at l9); (try dsimp only); (try k_sweep); (try k_fold)))
local macro_rules | `(tactic| walk_at "call ref") => `(tactic| (k_here; (with_reducible show wpAny _ _ (call (Value.ref 416) _) _ _ _); k_dflt (refine' use1 (ffs_spec _ _ _ _) ?k1a416c128 ?k2a416c128 ?k3a416c128 ?k4a416c128 ?k5a416c128 ?kKa416c128 ?kda416c128 ?kua416c128 ?kpa416c128 ?_; (case k1a416c128 => k_asm); (case k2a416c128 => k_asm); (case k3a416c128 => k_asm); (case k4a416c128 => k_asm); (case k5a416c128 => k_asm); (case kKa416c128 => first | exact rfl | assumption); (case kda416c128 => first | omega | ktr_room); (case kua416c128 => first | omega | ktr_units); (case kpa416c128 => first | trivial | assumption | omega | (constructor <;> omega) | k_extra "pre")); intro D9 t91 t92 t93 c9 h9 tk9 F9 N9 l9; (try simp only [AllLt, and_true] at l9); (try dsimp only); (try k_sweep); (try k_fold)))
local macro_rules | `(tactic| walk_at "call ref") => `(tactic| (k_here; (with_reducible show wpAny _ _ (call (Value.ref 409) _) _ _ _); k_dflt (refine' use1 (from_jd_french_spec _ _ _ _) ?k1a409c129 ?k2a409c129 ?k3a409c129 ?k4a409c129 ?k5a409c129 ?kKa409c129 ?kda409c129 ?kua409c129 ?kpa409c129 ?_; (case k1a409c129 => k_asm); (case k2a409c129 => k_asm); (case k3a409c129 => k_asm); (case k4a409c129 => k_asm); (case k5a409c129 => k_asm); (case kKa409c129 => first | exact rfl | assumption); (case kda409c129 => first | omega | ktr_room); (case kua409c129 => first | omega | ktr_units); (case kpa409c129 => first | trivial | assumption | omega | (constructor <;> omega) | k_extra "pre")); intro D9 t91 t92 t93 c9 h9 tk9 F9 N9 l9; (try simp only [AllLt, and_true] at l9); (try dsimp only); (try k_sweep); (try k_fold)))

local macro_rules | `(tactic| walk_at "call ref") => `(tactic| (k_here; (with_reducible show wpAny _ _ (call (Value.ref 431) _) _ _ _); k_dflt (refine' use1 (plegal_spec _ _ _ _ _ _ _) ?k1a431c130 ?k2a431c130 ?k3a431c130 ?k4a431c130 ?k5a431c130 ?kKa431c130 ?kda431c130 ?kua431c130 ?kpa431c130 ?_; (case k1a431c130 => k_asm); (case k2a431c130 => k_asm); (case k3a431c130 => k_asm); (case k4a431c130 => k_asm); (case k5a431c130 => k_asm); (case kKa431c130 => first | exact rfl | assumption); (case kda431c130 => first | omega | ktr_room); (case kua431c130 => first | omega | ktr_units); (case kpa431c130 => first | trivial | assumption | omega | (constructor <;> omega) | k_extra "pre")); intro h9 tk9 F9 N9; (try dsimp only); (try k_sweep); (try k_fold)))
local macro_rules | `(tactic| walk_at "call ref") => `(tactic| (k_here; (with_reducible show wpAny _ _ (call (Value.ref 438) _) _ _ _); k_dflt (refine' use1 (to_jd_pos_spec _ _ _ _ _ _ _) ?k1a438c131 ?k2a438c131 ?k3a438c131 ?k4a438c131 ?k5a438c131 ?kKa438c131 ?kda438c131 ?kua438c131 ?kpa438c131 ?_; (case k1a438c131 => k_asm); (case k2a438c131 => k_asm); (case k3a438c131 => k_asm); (case k4a438c131 => k_asm); (case k5a438c131 => k_asm); (case kKa438c131 => first | exact rfl | assumption); (case kda438c131 => first | omega | ktr_room); (case kua438c131 => first | omega | ktr_units); (case kpa438c131 => first | trivial | assumption | omega | (constructor <;> omega) | k_extra "pre")); intro t9 h9 tk9 F9 N9; (try dsimp only); (try k_sweep); (try k_fold)))
local macro_rules | `(tactic| walk_at "call ref") => `(tactic| (k_here; (with_reducible show wpAny _ _ (call (Value.ref 445) _) _ _ _); k_dflt (refine' use1 (from_jd_pos_spec _ _ _) ?k1a445c132 ?k2a445c132 ?k3a445c132 ?k4a445c132 ?k5a445c132 ?kKa445c132 ?kda445c132 ?kua445c132 ?kpa445c132 ?_; (case k1a445c132 => k_asm); (case k2a445c132 => k_asm); (case k3a445c132 => k_asm); (case k4a445c132 => k_asm); (case k5a445c132 => k_asm); (case kKa445c132 => first | exact rfl | assumption); (case kda445c132 => first | omega | ktr_room); (case kua445c132 => first | omega | ktr_units); (case kpa445c132 => first | trivial | assumption | omega | (constructor <;> omega) | k_extra "pre")); intro D9 t91 t92 t93 c9 h9 tk9 F9 N9 l9; (try simp only [AllLt, and_true] at l9); (try dsimp only); (try k_sweep); (try k_fold)))
local macro_rules | `(tactic| walk_at "call ref") => `(tactic| (k_here; (with_reducible show wpAny _ _ (call (Value.ref 452) _) _ _ _); k_dflt (refine' use1 (to_greg_pos_spec _ _ _ _ _ _ _) ?k1a452c133 ?k2a452c133 ?k3a452c133 ?k4a452c133 ?k5a452c133 ?kKa452c133 ?kda452c133 ?kua452c133 ?kpa452c133 ?_; (case k1a452c133 => k_asm); (case k2a452c133 => k_asm); (case k3a452c133 => k_asm); (case k4a452c133 => k_asm); (case k5a452c133 => k_asm); (case kKa452c133 => first | exact rfl | assumption); (case kda452c133 => first | omega | ktr_room); (case kua452c133 => first | omega | ktr_units); (case kpa452c133 => first | trivial | assumption | omega | (constructor <;> omega) | k_extra "pre")); intro D9 t91 t92 t93 c9 h9 tk9 F9 N9 l9; (try simp only [AllLt, and_true] at l9); (try dsimp only); (try k_sweep); (try k_fold)))

local macro_rules | `(tactic| walk_at "call ref") => `(tactic| (k_here; (with_reducible show wpAny _ _ (call (Value.ref 315) _) _ _ _); k_dflt (refine' use1 (hleap_spec _ _ _) ?k1a315c134 ?k2a315c134 ?k3a315c134 ?k4a315c134 ?k5a315c134 ?kKa315c134 ?kda315c134 ?kua315c134 ?kpa315c134 ?_; (case k1a315c134 => k_asm); (case k2a315c134 => k_asm); (case k3a315c134 => k_asm); (case k4a315c134 => k_asm); (case k5a315c134 => k_asm); (case kKa315c134 => first | exact rfl | assumption); (case kda315c134 => first | omega | ktr_room); (case kua315c134 => first | omega | ktr_units); (case kpa315c134 => first | trivial | assumption | omega | (constructor <;> omega) | k_extra "pre")); intro h9 tk9 F9 N9; (try dsimp only); (try k_sweep); (try k_fold)))
local macro_rules | `(tactic| walk_at "call ref") => `(tactic| (k_here; (with_reducible show wpAny _ _ (call (Value.ref 322) _) _ _ _); k_dflt (refine' use1 (hms_spec _ _ _) ?k1a322c135 ?k2a322c135 ?k3a322c135 ?k4a322c135 ?k5a322c135 ?kKa322c135 ?kda322c135 ?kua322c135 ?kpa322c135 ?_; (case k1a322c135 => k_asm); (case k2a322c135 => k_asm); (case k3a322c135 => k_asm); (case k4a322c135 => k_asm); (case k5a322c135 => k_asm); (case kKa322c135 => first | exact rfl | assumption); (case kda322c135 => first | omega | ktr_room); (case kua322c135 => first | omega | ktr_units); (case kpa322c135 => first | trivial | assumption | omega | (constructor <;> omega) | k_extra "pre")); intro t9 h9 tk9 F9 N9; (try dsimp only); (try k_sweep); (try k_fold)))
local macro_rules | `(tactic| walk_at "call ref") => `(tactic| (k_here; (with_reducible show wpAny _ _ (call (Value.ref 329) _) _ _ _); k_dflt (refine' use1 (hd1_spec _ _ _) ?k1a329c136 ?k2a329c136 ?k3a329c136 ?k4a329c136 ?k5a329c136 ?kKa329c136 ?kda329c136 ?kua329c136 ?kpa329c136 ?_; (case k1a329c136 => k_asm); (case k2a329c136 => k_asm); (case k3a329c136 => k_asm); (case k4a329c136 => k_asm); (case k5a329c136 => k_asm); (case kKa329c136 => first | exact rfl | assumption); (case kda329c136 => first | omega | ktr_room); (case kua329c136 => first | omega | ktr_units); (case kpa329c136 => first | trivial | assumption | omega | (constructor <;> omega) | k_extra "pre")); intro t9 h9 tk9 F9 N9; (try dsimp only); (try k_sweep); (try k_fold)))
local macro_rules | `(tactic| walk_at "call ref") => `(tactic| (k_here; (with_reducible show wpAny _ _ (call (Value.ref 336) _) _ _ _); k_dflt (refine' use1 (hd2_spec _ _ _) ?k1a336c137 ?k2a336c137 ?k3a336c137 ?k4a336c137 ?k5a336c137 ?kKa336c137 ?kda336c137 ?kua336c137 ?kpa336c137 ?_; (case k1a336c137 => k_asm); (case k2a336c137 => k_asm); (case k3a336c137 => k_asm); (case k4a336c137 => k_asm); (case k5a336c137 => k_asm); (case kKa336c137 => first | exact rfl | assumption); (case kda336c137 => first | omega | ktr_room); (case kua336c137 => first | omega | ktr_units); (case kpa336c137 => first | trivial | assumption | omega | (constructor <;> omega) | k_extra "pre")); intro t9 h9 tk9 F9 N9; (try dsimp only); (try k_sweep); (try k_fold)))
local macro_rules | `(tactic| walk_at "call ref") => `(tactic| (k_here; (with_reducible show wpAny _ _ (call (Value.ref 364) _) _ _ _); k_dflt (refine' use1 (hT_spec _ _ _ _ _) ?k1a364c138 ?k2a364c138 ?k3a364c138 ?k4a364c138 ?k5a364c138 ?kKa364c138 ?kda364c138 ?kua364c138 ?kpa364c138 ?_; (case k1a364c138 => k_asm); (case k2a364c138 => k_asm); (case k3a364c138 => k_asm); (case k4a364c138 => k_asm); (case k5a364c138 => k_asm); (case kKa364c138 => first | exact rfl | assumption); (case kda364c138 => first | omega | ktr_room); (case kua364c138 => first | omega | ktr_units); (case kpa364c138 => first | trivial | assumption | omega | (constructor <;> omega) | k_extra "pre")); intro t9 h9 tk9 F9 N9; (try dsimp only); (try k_sweep); (try k_fold)))
local macro_rules | `(tactic| walk_at "call ref") => `(tactic| (k_here; (with_reducible show wpAny _ _ (call (Value.ref 343) _) _ _ _); k_dflt (refine' use1 (hyd_spec _ _ _) ?k1a343c139 ?k2a343c139 ?k3a343c139 ?k4a343c139 ?k5a343c139 ?kKa343c139 ?kda343c139 ?kua343c139 ?kpa343c139 ?_; (case k1a343c139 => k_asm); (case k2a343c139 => k_asm); (case k3a343c139 => k_asm); (case k4a343c139 => k_asm); (case k5a343c139 => k_asm); (case kKa343c139 => first | exact rfl | assumption); (case kda343c139 => first | omega | ktr_room); (case kua343c139 => first | omega | ktr_units); (case kpa343c139 => first | trivial | assumption | omega | (constructor <;> omega) | k_extra "pre")); intro t9 h9 tk9 F9 N9; (try dsimp only); (try k_sweep); (try k_fold)))
local macro_rules | `(tactic| walk_at "call ref") => `(tactic| (k_here; (with_reducible show wpAny _ _ (call (Value.ref 350) _) _ _ _); k_dflt (refine' use1 (hml_spec _ _ _ _ _) ?k1a350c140 ?k2a350c140 ?k3a350c140 ?k4a350c140 ?k5a350c140 ?kKa350c140 ?kda350c140 ?kua350c140 ?kpa350c140 ?_; (case k1a350c140 => k_asm); (case k2a350c140 => k_asm); (case k3a350c140 => k_asm); (case k4a350c140 => k_asm); (case k5a350c140 => k_asm); (case kKa350c140 => first | exact rfl | assumption); (case kda350c140 => first | omega | ktr_room); (case kua350c140 => first | omega | ktr_units); (case kpa350c140 => first | trivial | assumption | omega | (constructor <;> omega) | k_extra "pre")); intro t9 h9 tk9 F9 N9; (try dsimp only); (try k_sweep); (try k_fold)))
local macro_rules | `(tactic| walk_at "call ref") => `(tactic| (k_here; (with_reducible show wpAny _ _ (call (Value.ref 357) _) _ _ _); k_dflt (refine' use1 (hmd_spec _ _ _ _ _) ?k1a357c141 ?k2a357c141 ?k3a357c141 ?k4a357c141 ?k5a357c141 ?kKa357c141 ?kda357c141 ?kua357c141 ?kpa357c141 ?_; (case k1a357c141 => k_asm); (case k2a357c141 => k_asm); (case k3a357c141 => k_asm); (case k4a357c141 => k_asm); (case k5a357c141 => k_asm); (case kKa357c141 => first | exact rfl | assumption); (case kda357c141 => first | omega | ktr_room); (case kua357c141 => first | omega | ktr_units); (case kpa357c141 => first | trivial | assumption | omega | (constructor <;> omega) | k_extra "pre")); intro t9 h9 tk9 F9 N9; (try dsimp only); (try k_sweep); (try k_fold)))



local macro_rules | `(tactic| walk_at "call ref") => `(tactic| (k_here; (with_reducible show wpAny _ _ (call (Value.ref 364) _) _ _ _); k_dflt (refine' use1 (hj_spec _ _ _ _ _ _ _) ?k1a364c142 ?k2a364c142 ?k3a364c142 ?k4a364c142 ?k5a364c142 ?kKa364c142 ?kda364c142 ?kua364c142 ?kpa364c142 ?_; (case k1a364c142 => k_asm); (case k2a364c142 => k_asm); (case k3a364c142 => k_asm); (case k4a364c142 => k_asm); (case k5a364c142 => k_asm); (case kKa364c142 => first | exact rfl | assumption); (case kda364c142 => first | omega | ktr_room); (case kua364c142 => first | omega | ktr_units); (case kpa364c142 => first | trivial | assumption | omega | (constructor <;> omega) | k_extra "pre")); intro t9 h9 tk9 F9 N9; (try dsimp only); (try k_sweep); (try k_fold)))
local macro_rules | `(tactic| walk_at "call ref") => `(tactic| (k_here; (with_reducible show wpAny _ _ (call (Value.ref 364) _) _ _ _); k_dflt (refine' use1 (hT_spec _ _ _ _ _) ?k1a364c143 ?k2a364c143 ?k3a364c143 ?k4a364c143 ?k5a364c143 ?kKa364c143 ?kda364c143 ?kua364c143 ?kpa364c143 ?_; (case k1a364c143 => k_asm); (case k2a364c143 => k_asm); (case k3a364c143 => k_asm); (case k4a364c143 => k_asm); (case k5a364c143 => k_asm); (case kKa364c143 => first | exact rfl | assumption); (case kda364c143 => first | omega | ktr_room); (case kua364c143 => first | omega | ktr_units); (case kpa364c143 => first | trivial | assumption | omega | (constructor <;> omega) | k_extra "pre")); intro t9 h9 tk9 F9 N9; (try dsimp only); (try k_sweep); (try k_fold)))
local macro_rules | `(tactic| walk_at "call ref") => `(tactic| (k_here; (with_reducible show wpAny _ _ (call (Value.ref 371) _) _ _ _); k_dflt (refine' use1 (hfrom_spec _ _ _) ?k1a371c144 ?k2a371c144 ?k3a371c144 ?k4a371c144 ?k5a371c144 ?kKa371c144 ?kda371c144 ?kua371c144 ?kpa371c144 ?_; (case k1a371c144 => k_asm); (case k2a371c144 => k_asm); (case k3a371c144 => k_asm); (case k4a371c144 => k_asm); (case k5a371c144 => k_asm); (case kKa371c144 => first | exact rfl | assumption); (case kda371c144 => first | omega | ktr_room); (case kua371c144 => first | omega | ktr_units); (case kpa371c144 => first | trivial | assumption | omega | (constructor <;> omega) | k_extra "pre")); intro D9 t91 t92 t93 c9 h9 tk9 F9 N9 l9; (try simp only [AllLt, and_true] at l9); (try dsimp only); (try k_sweep); (try k_fold)))
local macro_rules | `(tactic| walk_at "call ref") => `(tactic| (k_here; (with_reducible show wpAny _ _ (call (Value.ref 378) _) _ _ _); k_dflt (refine' use1 (to_greg_hebrew_spec _ _ _ _ _ _ _) ?k1a378c145 ?k2a378c145 ?k3a378c145 ?k4a378c145 ?k5a378c145 ?kKa378c145 ?kda378c145 ?kua378c145 ?kpa378c145 ?_; (case k1a378c145 => k_asm); (case k2a378c145 => k_asm); (case k3a378c145 => k_asm); (case k4a378c145 => k_asm); (case k5a378c145 => k_asm); (case kKa378c145 => first | exact rfl | assumption); (case kda378c145 => first | omega | ktr_room); (case kua378c145 => first | omega | ktr_units); (case kpa378c145 => first | trivial | assumption | omega | (constructor <;> omega) | k_extra "pre")); intro D9 t91 t92 t93 c9 h9 tk9 F9 N9 l9; (try simp only [AllLt, and_true] at l9); (try dsimp only); (try k_sweep); (try k_fold)))

local macro_rules | `(tactic| walk_at "subscriptTail Name BinOp ref int") => `(tactic| (k_here; k_dflt (refine' sub_tupAt ?zqT ?zqL ?_ ?zqS; (case zqT => first | exact tupAt_led (by k_asm) (by k_mem) (by first | assumption | (repeat constructor)) | exact tupAt_top (by k_asm) (by k_asm) (by k_is) (by repeat constructor)); (case zqL => k_extra "sub"); (case zqS => with_unfolding_all rfl)); intro v9; (try k_sweep); (try dsimp only)))

local macro_rules | `(tactic| walk_at "call ref") => `(tactic| (k_here; (with_reducible show wpAny _ _ (call (Value.ref 535) _) _ _ _); k_dflt (refine' use1 (fours_spec _ _ _ _ _ _ _) ?k1a535c146 ?k2a535c146 ?k3a535c146 ?k4a535c146 ?k5a535c146 ?kKa535c146 ?kda535c146 ?kua535c146 ?kpa535c146 ?_; (case k1a535c146 => k_asm); (case k2a535c146 => k_asm); (case k3a535c146 => k_asm); (case k4a535c146 => k_asm); (case k5a535c146 => k_asm); (case kKa535c146 => first | exact rfl | assumption); (case kda535c146 => first | omega | ktr_room); (case kua535c146 => first | omega | ktr_units); (case kpa535c146 => first | trivial | assumption | omega | (constructor <;> omega) | k_extra "pre")); intro D9 t91 t92 c9 h9 tk9 F9 N9 l9; (try simp only [AllLt, and_true] at l9); (try dsimp only); (try k_sweep); (try k_fold)))

local macro_rules | `(tactic| walk_at "call builtin:len") => `(tactic| (k_here; (with_reducible show wpAny _ _ (call (Value.builtin "len") [Value.ref _]) _ _ _); k_dflt (refine' len_le ?zo1 ?zo2 ?zo3 ?zo4 ?_; (case zo1 => k_asm); (case zo2 => k_mem); (case zo3 => assumption); (case zo4 => (simp))); (try dsimp only)))
local macro_rules | `(tactic| walk_at "SrcLe") => `(tactic| (k_here; k_dflt (refine' srcLe_intro ?zl1 ?zl2 ?zl3 ?zl4 ?zl5 ?zl6 ?zl7 ?_; (case zl1 => with_unfolding_all exact rfl); (case zl2 => k_asm); (case zl3 => k_asm); (case zl4 => exact tupAt_top0 (by k_asm) (by k_is) (by repeat constructor)); (case zl5 => k_mem); (case zl6 => k_asm); (case zl7 => (simp))); intro D9 ys9 h9 tk9 F9 N9 o9 i9; (try k_sweep); (try dsimp only)))
local macro_rules | `(tactic| walk_at "eval ListComp") => `(tactic| (k_here; k_dflt (refine' comp_le ?zc1 ?zc2 ?zc3 ?zc4 ?zc5 ?zc6 ?zc7 ?zc8 ?zc9 ?zca ?zcb ?zcc ?zcd ?_ ?zce; (case zc1 => k_asm); (case zc2 => with_unfolding_all rfl); (case zc3 => decide); (case zc4 => rfl); (case zc5 => decide); (case zc6 => rfl); (case zc7 => rfl); (case zc8 => (intro _; first | rfl | with_unfolding_all rfl)); (case zc9 => (intro _; first | rfl | with_unfolding_all rfl)); (case zca => (intro _; first | rfl | with_unfolding_all rfl)); (case zcb => decide); (case zcc => decide); (case zcd => decide); (case zce => (intro _; with_unfolding_all rfl))); (try k_fold)))
local macro_rules | `(tactic| k_all) => `(tactic| first | exact allNe_a (by assumption) | exact allNe_b (by assumption))
local macro_rules | `(tactic| walk_at "call builtin:divmod") => `(tactic| (k_here; (with_reducible show wpAny _ _ (call (Value.builtin _) [Value.int _ _, Value.int _ _]) _ _ _); k_dflt (refine' divmod_lit ?zdF ?zdN ?zdB ?_; (case zdF => k_asm); (case zdN => k_asm); (case zdB => first | decide | omega)); intro D9 h9 F9 N9 l9; (try k_lt l9); (try k_sweep); (try dsimp only)))
local macro_rules | `(tactic| walk_at "call ref") => `(tactic| (k_here; (with_reducible show wpAny _ _ (call (Value.ref 540) _) _ _ _); k_dflt (refine' use1 (tishri_spec _ _ _) ?k1a540c147 ?k2a540c147 ?k3a540c147 ?k4a540c147 ?k5a540c147 ?kKa540c147 ?kda540c147 ?kua540c147 ?kpa540c147 ?_; (case k1a540c147 => k_asm); (case k2a540c147 => k_asm); (case k3a540c147 => k_asm); (case k4a540c147 => k_asm); (case k5a540c147 => k_asm); (case kKa540c147 => first | exact rfl | assumption); (case kda540c147 => first | omega | ktr_room); (case kua540c147 => first | omega | ktr_units); (case kpa540c147 => first | trivial | assumption | omega | (constructor <;> omega) | k_extra "pre")); intro t9 h9 tk9 F9 N9; (try dsimp only); (try k_sweep); (try k_fold)))

local macro_rules | `(tactic| walk_at "subscriptTail Name Name ref int") => `(tactic| (k_here; k_extra "sub tab"))
local macro_rules | `(tactic| walk_at "subscriptTail Subscript Name Name Constant ref int") => `(tactic| (k_here; (with_reducible show wpAny _ _ (subscriptTail _ _ (Value.ref _) (Value.int 1 _)) _ _ _); k_dflt (refine' sub_pair1 ?zpT ?_ ?zpS; (case zpT => with_reducible assumption); (case zpS => with_unfolding_all rfl)); intro v9))
local macro_rules | `(tactic| walk_at "subscriptTail Subscript Name Name Constant ref int") => `(tactic| (k_here; (with_reducible show wpAny _ _ (subscriptTail _ _ (Value.ref _) (Value.int 0 _)) _ _ _); k_dflt (refine' sub_pair0 ?zpU ?_ ?zpV; (case zpU => with_reducible assumption); (case zpV => with_unfolding_all rfl)); intro v9))
local macro_rules | `(tactic| walk_at "eval IfExp") => `(tactic| (k_here; (with_reducible show wpAny _ _ (eval (Expr.IfExp _ (Expr.Constant (Const.int _) _ _) (Expr.Constant (Const.int _) _ _) _) _) _ _ _); (refine ifexp_ints ?_); (try dsimp only)))
local macro_rules | `(tactic| walk_at "call ref") => `(tactic| (k_here; (with_reducible show wpAny _ _ (call (Value.ref 547) _) _ _ _); k_dflt (refine' use1 (law_hebrew_spec _ _ _) ?k1a547c148 ?k2a547c148 ?k3a547c148 ?k4a547c148 ?k5a547c148 ?kKa547c148 ?kda547c148 ?kua547c148 ?kpa547c148 ?_; (case k1a547c148 => k_asm); (case k2a547c148 => k_asm); (case k3a547c148 => k_asm); (case k4a547c148 => k_asm); (case k5a547c148 => k_asm); (case kKa547c148 => first | exact rfl | assumption); (case kda547c148 => first | omega | ktr_room); (case kua547c148 => first | omega | ktr_units); (case kpa547c148 => first | trivial | assumption | omega | (constructor <;> omega) | k_extra "pre")); intro D9 t91 t92 t93 c9 h9 tk9 F9 N9 l9; (try simp only [AllLt, and_true] at l9); (try dsimp only); (try k_sweep); (try k_fold)))

local macro_rules | `(tactic| walk_at "call ref") => `(tactic| (k_here; (with_reducible show wpAny _ _ (call (Value.ref 528) _) _ _ _); k_dflt (refine' use1 (place2_spec _ _ _ _ _ _ _ ?hl149) ?k1a528c149 ?k2a528c149 ?k3a528c149 ?k4a528c149 ?k5a528c149 ?kKa528c149 ?kda528c149 ?kua528c149 ?kpa528c149 ?_; (case k1a528c149 => k_asm); (case k2a528c149 => k_asm); (case k3a528c149 => k_asm); (case k4a528c149 => k_asm); (case k5a528c149 => k_asm); (case hl149 => (repeat (first | with_reducible_and_instances exact List.Mem.head _ | with_reducible assumption | with_reducible_and_instances assumption | refine List.Mem.tail _ ?_))); (case kKa528c149 => first | exact rfl | assumption); (case kda528c149 => first | omega | ktr_room); (case kua528c149 => first | omega | ktr_units); (case kpa528c149 => first | trivial | assumption | omega | (constructor <;> omega) | k_extra "pre")); intro t9 h9 tk9 F9 N9; (try dsimp only); (try k_sweep); (try k_fold)))
local macro_rules | `(tactic| walk_at "call ref") => `(tactic| (k_here; (with_reducible show wpAny _ _ (call (Value.ref 521) _) _ _ _); k_dflt (refine' use1 (morrow2_spec _ _ _ _ _ _ _ ?hl150) ?k1a521c150 ?k2a521c150 ?k3a521c150 ?k4a521c150 ?k5a521c150 ?kKa521c150 ?kda521c150 ?kua521c150 ?kpa521c150 ?_; (case k1a521c150 => k_asm); (case k2a521c150 => k_asm); (case k3a521c150 => k_asm); (case k4a521c150 => k_asm); (case k5a521c150 => k_asm); (case hl150 => (repeat (first | with_reducible_and_instances exact List.Mem.head _ | with_reducible assumption | with_reducible_and_instances assumption | refine List.Mem.tail _ ?_))); (case kKa521c150 => first | exact rfl | assumption); (case kda521c150 => first | omega | ktr_room); (case kua521c150 => first | omega | ktr_units); (case kpa521c150 => first | trivial | assumption | omega | (constructor <;> omega) | k_extra "pre")); intro D9 t91 t92 t93 c9 h9 tk9 F9 N9 l9; (try simp only [AllLt, and_true] at l9); (try dsimp only); (try k_sweep); (try k_fold)))
local macro_rules | `(tactic| walk_at "subscriptTail Name Constant ref int") => `(tactic| (k_here; (with_reducible show wpAny _ _ (subscriptTail _ _ (Value.ref _) (Value.int 0 _)) _ _ _); k_dflt (refine' sub3_0 ?zx0N ?zx0m ?_ ?zx0s; (case zx0N => k_asm); (case zx0m => (repeat (first | with_reducible_and_instances exact List.Mem.head _ | with_reducible assumption | with_reducible_and_instances assumption | refine List.Mem.tail _ ?_))); (case zx0s => with_unfolding_all rfl)); intro v9))
local macro_rules | `(tactic| walk_at "subscriptTail Name Constant ref int") => `(tactic| (k_here; (with_reducible show wpAny _ _ (subscriptTail _ _ (Value.ref _) (Value.int 1 _)) _ _ _); k_dflt (refine' sub3_1 ?zx1N ?zx1m ?_ ?zx1s; (case zx1N => k_asm); (case zx1m => (repeat (first | with_reducible_and_instances exact List.Mem.head _ | with_reducible assumption | with_reducible_and_instances assumption | refine List.Mem.tail _ ?_))); (case zx1s => with_unfolding_all rfl)); intro v9))
local macro_rules | `(tactic| walk_at "subscriptTail Name Constant ref int") => `(tactic| (k_here; (with_reducible show wpAny _ _ (subscriptTail _ _ (Value.ref _) (Value.int 2 _)) _ _ _); k_dflt (refine' sub3_2 ?zx2N ?zx2m ?_ ?zx2s; (case zx2N => k_asm); (case zx2m => (repeat (first | with_reducible_and_instances exact List.Mem.head _ | with_reducible assumption | with_reducible_and_instances assumption | refine List.Mem.tail _ ?_))); (case zx2s => with_unfolding_all rfl)); intro v9))
local macro_rules | `(tactic| walk_at "call ref") => `(tactic| (k_here; (with_reducible show wpAny _ _ (call (Value.ref 507) _) _ _ _); k_dflt (refine' use1 (throughI ?hmz ?hnz ?hoz) ?k1z ?k2z ?k3z ?k4z ?k5z ?kKz ?kdz ?kuz ?kpz ?_; (case k1z => k_asm); (case k2z => k_asm); (case k3z => k_asm); (case k4z => k_asm); (case k5z => k_asm); (case kKz => first | exact rfl | assumption); (case kdz => first | omega | ktr_room); (case kuz => first | omega | ktr_units); (case hmz => k_mem); (case hnz => first | exact seq_tup (by assumption) | exact seq_lst (by assumption) | exact seq_lst (by repeat constructor)); (case hoz => simp); (case kpz => k_extra "pre")); intro D9 t91 t92 t93 c9 h9 tk9 F9 N9 l9; (try simp only [AllLt, and_true] at l9); (try dsimp only); (try k_sweep); (try k_fold)))
local macro_rules | `(tactic| walk_at "SrcLe") => `(tactic| (k_here; k_dflt (refine' srcLe_intro ?zm1 ?zm2 ?zm3 ?zm4 ?zm5 ?zm6 ?zm7 ?_; (case zm1 => with_unfolding_all exact rfl); (case zm2 => k_asm); (case zm3 => k_asm); (case zm4 => exact tupAt_top0 (by k_asm) (by k_is) (by repeat constructor)); (case zm5 => k_mem); (case zm6 => k_asm); (case zm7 => (simp))); intro D9 ys9 h9 tk9 F9 N9 o9 i9; (replace o9 := off1_of o9); (try simp only [LCg.Off1, and_true] at o9); (try k_sweep); (try dsimp only)))
local macro_rules | `(tactic| walk_at "loadName") => `(tactic| (k_here; k_dflt (first
  | (refine' loadP ?nlc ?clc ?Flc ?alc ?klc ?_; (case nlc => assumption); (case clc => rfl); (case klc => rfl); (case Flc => k_asm); (case alc => with_reducible (repeat (first | exact At.here | refine At.there ?_))))
  | (refine' loadC ?Nld ?cld ?mld ?dld ?_ ?ald ?bld; (case ald => rfl); (case bld => rfl); (case Nld => k_asm); (case cld => rfl); (case mld => k_mem); (case dld => k_asm)))))
local macro_rules | `(tactic| walk_at "compareOp In int ref") => `(tactic| (k_here; k_dflt (refine' in_anyTup ?Fia ?Xia ?lia ?iia ?_; (case Fia => k_asm); (case Xia => k_asm); (case lia => k_is); (case iia => (repeat constructor)))))
local macro_rules | `(tactic| walk_at "call ref") => `(tactic| (k_here; (with_reducible show wpAny _ _ (call (Value.ref 552) _) _ _ _); k_dflt (refine' use1 (date_spec _ _ _ _ _ _ _ _ _ _ ?hl151) ?k1a552c151 ?k2a552c151 ?k3a552c151 ?k4a552c151 ?k5a552c151 ?kKa552c151 ?kda552c151 ?kua552c151 ?kpa552c151 ?_; (case k1a552c151 => k_asm); (case k2a552c151 => k_asm); (case k3a552c151 => k_asm); (case k4a552c151 => k_asm); (case k5a552c151 => k_asm); (case hl151 => (repeat (first | with_reducible_and_instances exact List.Mem.head _ | with_reducible assumption | with_reducible_and_instances assumption | refine List.Mem.tail _ ?_))); (case kKa552c151 => first | exact rfl | assumption); (case kda552c151 => first | omega | ktr_room); (case kua552c151 => first | omega | ktr_units); (case kpa552c151 => first | trivial | assumption | omega | (constructor <;> omega) | k_extra "pre")); intro D9 vs9 c9 h9 tk9 F9 N9 l9 i9; (try simp only [AllLt, and_true] at l9); (try dsimp only); (try k_sweep); (try k_fold)))

-- A20
-- the law's helpers told, asked, home
abbrev EP (k n : Int) : Prop := 0 ≤ k ∧ k ≤ 11 ∧ (k = 5 → 584283 ≤ n) ∧ (k = 6 → 1922868 ≤ n) ∧ (k = 7 → 2117212 ≤ n) ∧ (k = 8 → 347998 ≤ n) ∧ (k = 9 → 2375840 ≤ n) ∧ (k = 10 → 2374480 ≤ n)
abbrev AP (k n : Int) : Prop := (k = 10 → ¬ (cy n % 400 = 0 ∧ cm n = 12 ∧ cd n = 31)) ∧ (k = 11 → 1 ≤ cy n ∧ cy n ≤ 9999)
theorem tk_0 {k n : Int} (h : k = 0) : [jy n, jm n, jd n] = dat k n := (told_0 n).trans (dat_0 h)
theorem tk_1 {k n : Int} (h : k = 1) : [cy n, yday n + 1] = dat k n := (told_1 n).trans (dat_1 h)
theorem dat_2 {k n : Int} (h : k = 2) : dat2 n = dat k n := by subst h; rfl
theorem dat_4 {k n : Int} (h : k = 4) : dat4 n = dat k n := by subst h; rfl
theorem tk_2 {k n : Int} (h : k = 2) : [iy n, im n, idd n] = dat k n := (told_2 n).trans (dat_2 h)
theorem tk_3 {k n : Int} (h : k = 3) : [ky n, km n, kd n] = dat k n := (told_3 n).trans (dat_3 h)
theorem tk_4 {k n : Int} (h : k = 4) : [ny n, nmm n, ndd n] = dat k n := (told_4 n).trans (dat_4 h)
theorem tk_5 {k n : Int} (h : k = 5) : [v1 n, v2 n, v3 n, v4 n, v5 n] = dat k n := (told_5 n).trans (dat_5 h)
theorem tk_6 {k n : Int} (e : EP k n) (h : k = 6) : [ay n, am n, ad n] = dat k n := (told_6 (e.2.2.2.1 h)).trans (dat_6 h)
theorem tk_7 {k n : Int} (e : EP k n) (h : k = 7) : [sy n + 533, sm n, sdd n] = dat k n := (told_7 (e.2.2.2.2.1 h)).trans (dat_7 h)
theorem tk_8 {k n : Int} (h : k = 8) : [hY n, hM n, hD n] = dat k n := dat_8 h
theorem tk_9 {k n : Int} (e : EP k n) (h : k = 9) : [fy n, fm n, fd n] = dat k n := (told_9 (e.2.2.2.2.2.2.1 h)).trans (dat_9 h)
theorem tk_10 {k n : Int} (a : AP k n) (h : k = 10) : [py n, pm n, pd n] = dat k n := (told_10 (a.1 h)).trans (dat_10 h)
theorem tk_11 {k n : Int} (h : k = 11) : [wy n (cy n), wk n (cy n), wd n (cy n)] = dat k n := (told_11 n).trans (dat_11 h)
theorem k_11 {k n : Int} (e : EP k n) (h0 : k ≠ 0) (h1 : k ≠ 1) (h2 : k ≠ 2) (h3 : k ≠ 3) (h4 : k ≠ 4) (h5 : k ≠ 5) (h6 : k ≠ 6) (h7 : k ≠ 7) (h8 : k ≠ 8) (h9 : k ≠ 9) (h10 : k ≠ 10) : k = 11 := by omega
set_option maxHeartbeats 2000000 in
theorem told_spec (news) (k n : Int) (t1 t2 : Tok) : Call1 w loose mean mg mb 9 559 news [.int k t1, .int n t2] (EP k n ∧ AP k n) (RetL (dat k n)) := by
  refine unwrap ?_
  simp (disch := k_dflt (
    k_with_none
    k_with "gl" => first | exact gl_from_jd_iso _ | exact gl_from_jd_julian _ | exact gl_from_jd_ordinal _ | exact gl_from_jd_islamic _ | exact gl_from_jd_coptic _ | exact gl_from_jd_indian_civil _ | exact gl_from_jd_mayan _ | exact gl_from_jd_armenian _ | exact gl_from_jd_hebrew _ | exact gl_from_jd_french_republican _ | exact gl_from_jd_positivist _
    dsimp only [Call1]
    intro dp un gd cn cs aF ccd cl outer A₀ base h₀ L mp s Q E B F X N T hk hdp hun hpre hret
    refine wpAny_call ?_
    k_dflt cell_enter
    (rename Fr _ _ _ _ => FE)
    (refine' startP (l' := [(Str.ofString "number", .int n t2), (Str.ofString "which", .int k t1)]) ?cs ?nd FE ?e ?S ?_)
    (case cs => (first | (dsimp only; done) | rfl))
    (case nd => kernel_rfl!)
    (case e => kernel_rfl!)
    (case S => with_reducible (apply Sts.cons; apply Sts.cons; apply Sts.nil; (repeat (first | exact Nones.nil | apply Nones.cons)); (all_goals (repeat (first | exact St.here | apply St.there)))))
    (clear FE; intro hnd FE tk0; (try k_fold))
    obtain ⟨pe, pa⟩ := hpre
    k_with "pre" => first | exact pe.2.2.1 (by assumption) | exact Int.le_trans (by decide) (pe.2.2.2.1 (by assumption)) | exact Int.le_trans (by decide) (pe.2.2.2.2.1 (by assumption)) | exact Int.le_trans (by decide) (pe.2.2.2.2.2.1 (by assumption)) | exact pe.2.2.2.2.2.2.1 (by assumption) | exact pe.2.2.2.2.2.2.2 (by assumption) | exact pa.2 (k_11 pe (by assumption) (by assumption) (by assumption) (by assumption) (by assumption) (by assumption) (by assumption) (by assumption) (by assumption) (by assumption) (by assumption))
    k_steps
    all_goals (refine' endL hret ?q7m ?q7i ?q7a ?q7f ?q7n ?q7s ?q7l; (case q7f => k_asm); (case q7n => k_asm); (case q7m => k_mem); (case q7i => (repeat constructor)); (case q7s => (first | exact fun _ h => h | exact fun _ h => .tail _ h | exact fun _ h => .tail _ (.tail _ h) | exact fun _ h => .tail _ (.tail _ (.tail _ h)) | exact fun _ h => .tail _ (.tail _ (.tail _ (.tail _ h))) | exact fun _ h => .tail _ (.tail _ (.tail _ (.tail _ (.tail _ h)))) | (intro p9 hp9; repeat (first | exact hp9 | refine List.Mem.tail _ ?_)))); (case q7l => (first | assumption | k_extra "lt" | exact allLt_of (by assumption) | exact And.right (by assumption) | (simp only [AllLt, and_true] at *; first | assumption | exact allLt_of (by assumption) | exact And.right (by assumption) | (simp_all; done)))); (case q7a => (with_reducible first | exact tk_0 (by assumption) | exact tk_1 (by assumption) | exact tk_2 (by assumption) | exact tk_3 (by assumption) | exact tk_4 (by assumption) | exact tk_5 (by assumption) | exact tk_6 pe (by assumption) | exact tk_7 pe (by assumption) | exact tk_8 (by assumption) | exact tk_9 pe (by assumption) | exact tk_10 pa (by assumption) | exact tk_11 (k_11 pe (by assumption) (by assumption) (by assumption) (by assumption) (by assumption) (by assumption) (by assumption) (by assumption) (by assumption) (by assumption) (by assumption))))))) only [↓wrap_true]
local macro_rules | `(tactic| walk_at "call ref") => `(tactic| (k_here; (with_reducible show wpAny _ _ (call (Value.ref 559) _) _ _ _); k_dflt (refine' use1 (told_spec _ _ _ _ _) ?k1a559c152 ?k2a559c152 ?k3a559c152 ?k4a559c152 ?k5a559c152 ?kKa559c152 ?kda559c152 ?kua559c152 ?kpa559c152 ?_; (case k1a559c152 => k_asm); (case k2a559c152 => k_asm); (case k3a559c152 => k_asm); (case k4a559c152 => k_asm); (case k5a559c152 => k_asm); (case kKa559c152 => first | exact rfl | assumption); (case kda559c152 => first | omega | ktr_room); (case kua559c152 => first | omega | ktr_units); (case kpa559c152 => first | trivial | assumption | omega | (constructor <;> omega) | k_extra "pre")); intro D9 vs9 c9 h9 tk9 F9 N9 l9 i9; (try simp only [AllLt, and_true] at l9); (try dsimp only); (try k_sweep); (try k_fold)))

-- A21
theorem as_a {k n : Int} (h : k = 10) (h1 : cy n % 400 = 0) (h2 : cm n = 12) : (!cd n == 31) = decide (AP k n) := by subst h; simp [AP, h1, h2]; rfl
theorem as_b {k n : Int} (h : k = 10) (h2 : cm n ≠ 12) : (!cm n == 12) = decide (AP k n) := by subst h; simp [AP, h2]
theorem as_c {k n : Int} (h : k = 10) (h2 : cy n % 400 ≠ 0) : (!cy n % 400 == 0) = decide (AP k n) := by subst h; simp [AP, h2]
theorem as_d {k n : Int} (h : k ≠ 10) (h2 : k ≠ 11) : (k != 11) = decide (AP k n) := by simp [AP, h, h2]
theorem as_e {k n : Int} (h : k ≠ 10) (h2 : k = 11) (h3 : 1 ≤ cy n) : decide (cy n ≤ 9999) = decide (AP k n) := by subst h2; simp [AP, h3]
theorem as_f {k n : Int} (h : k ≠ 10) (h2 : k = 11) (h3 : ¬ 1 ≤ cy n) : decide (1 ≤ cy n) = decide (AP k n) := by subst h2; simp [AP, h3]
theorem asked_spec (news) (D : Addr) (k n : Int) (t1 t2 t3 t4 : Tok) (c : Nat) (hm : (D, tup3 (cy n) (cm n) (cd n) t1 t2 t3 c) ∈ news) : Call1 w loose mean mg mb 1 580 news [.int k t4, .ref D] True (RetB (decide (AP k n))) := by
  refine unwrap ?_
  simp (disch := k_dflt (
    k_with_none
    dsimp only [Call1]
    intro dp un gd cn cs aF ccd cl outer A₀ base h₀ L mp s Q E B F X N T hk hdp hun hpre hret
    refine wpAny_call ?_
    k_dflt cell_enter
    (rename Fr _ _ _ _ => FE)
    (refine' startP (l' := [(Str.ofString "civil", .ref D), (Str.ofString "which", .int k t4)]) ?cs ?nd FE ?e ?S ?_)
    (case cs => (first | (dsimp only; done) | rfl))
    (case nd => kernel_rfl!)
    (case e => kernel_rfl!)
    (case S => with_reducible (apply Sts.cons; apply Sts.cons; apply Sts.nil; (repeat (first | exact Nones.nil | apply Nones.cons)); (all_goals (repeat (first | exact St.here | apply St.there)))))
    (clear FE; intro hnd FE tk0; (try k_fold))
    k_steps
    all_goals (refine' endB hret ?q7a ?q7f ?q7n ?q7s; (case q7f => k_asm); (case q7n => k_asm); (case q7s => (first | exact fun _ h => h | exact fun _ h => .tail _ h | exact fun _ h => .tail _ (.tail _ h) | exact fun _ h => .tail _ (.tail _ (.tail _ h)) | exact fun _ h => .tail _ (.tail _ (.tail _ (.tail _ h))) | exact fun _ h => .tail _ (.tail _ (.tail _ (.tail _ (.tail _ h)))) | (intro p9 hp9; repeat (first | exact hp9 | refine List.Mem.tail _ ?_)))); (case q7a => (with_reducible first | exact as_a (by assumption) (by assumption) (by assumption) | exact as_b (by assumption) (by assumption) | exact as_c (by assumption) (by assumption) | exact as_d (by assumption) (by assumption) | exact as_e (by assumption) (by assumption) (by assumption) | exact as_f (by assumption) (by assumption) (by assumption)))))) only [↓wrap_true]
local macro_rules | `(tactic| walk_at "call ref") => `(tactic| (k_here; (with_reducible show wpAny _ _ (call (Value.ref 580) _) _ _ _); k_dflt (refine' use1 (asked_spec _ _ _ _ _ _ _ _ _ ?hl153) ?k1a580c153 ?k2a580c153 ?k3a580c153 ?k4a580c153 ?k5a580c153 ?kKa580c153 ?kda580c153 ?kua580c153 ?kpa580c153 ?_; (case k1a580c153 => k_asm); (case k2a580c153 => k_asm); (case k3a580c153 => k_asm); (case k4a580c153 => k_asm); (case k5a580c153 => k_asm); (case hl153 => (repeat (first | with_reducible_and_instances exact List.Mem.head _ | with_reducible assumption | with_reducible_and_instances assumption | refine List.Mem.tail _ ?_))); (case kKa580c153 => first | exact rfl | assumption); (case kda580c153 => first | omega | ktr_room); (case kua580c153 => first | omega | ktr_units); (case kpa580c153 => first | trivial | assumption | omega | (constructor <;> omega) | k_extra "pre")); intro h9 tk9 F9 N9; (try dsimp only); (try k_sweep); (try k_fold)))
section
variable {prog : Program} {wd : World} {A : Around} {E : Value → Shared → Prop} {s : Shared} {zs : List Int} {value slice : Expr} {t : Addr} {u : Tok} {Q : Value → Shared → Prop}
theorem sub_l0 (ht : TupAt s.heap t zs) (hk : 0 < zs.length) (h : ∀ v, Q (.int (zs.getD 0 0) v) s)
    (hs : subscripted slice false (.ref t) (.int 0 u) = operate [.ref t, .int 0 u] (getItem (.ref t) (.int 0 u)) := by with_unfolding_all rfl) : wpAny (model prog wd) A (subscriptTail value slice (.ref t) (.int 0 u)) Q E s := sub_tupAt ht ⟨by decide, by omega, by decide⟩ h hs
theorem sub_l1 (ht : TupAt s.heap t zs) (hk : 1 < zs.length) (h : ∀ v, Q (.int (zs.getD 1 0) v) s)
    (hs : subscripted slice false (.ref t) (.int 1 u) = operate [.ref t, .int 1 u] (getItem (.ref t) (.int 1 u)) := by with_unfolding_all rfl) : wpAny (model prog wd) A (subscriptTail value slice (.ref t) (.int 1 u)) Q E s := sub_tupAt ht ⟨by decide, by omega, by decide⟩ h hs
theorem sub_l2 (ht : TupAt s.heap t zs) (hk : 2 < zs.length) (h : ∀ v, Q (.int (zs.getD 2 0) v) s)
    (hs : subscripted slice false (.ref t) (.int 2 u) = operate [.ref t, .int 2 u] (getItem (.ref t) (.int 2 u)) := by with_unfolding_all rfl) : wpAny (model prog wd) A (subscriptTail value slice (.ref t) (.int 2 u)) Q E s := sub_tupAt ht ⟨by decide, by omega, by decide⟩ h hs
theorem sub_l3 (ht : TupAt s.heap t zs) (hk : 3 < zs.length) (h : ∀ v, Q (.int (zs.getD 3 0) v) s)
    (hs : subscripted slice false (.ref t) (.int 3 u) = operate [.ref t, .int 3 u] (getItem (.ref t) (.int 3 u)) := by with_unfolding_all rfl) : wpAny (model prog wd) A (subscriptTail value slice (.ref t) (.int 3 u)) Q E s := sub_tupAt ht ⟨by decide, by omega, by decide⟩ h hs
theorem sub_l4 (ht : TupAt s.heap t zs) (hk : 4 < zs.length) (h : ∀ v, Q (.int (zs.getD 4 0) v) s)
    (hs : subscripted slice false (.ref t) (.int 4 u) = operate [.ref t, .int 4 u] (getItem (.ref t) (.int 4 u)) := by with_unfolding_all rfl) : wpAny (model prog wd) A (subscriptTail value slice (.ref t) (.int 4 u)) Q E s := sub_tupAt ht ⟨by decide, by omega, by decide⟩ h hs
end
local macro_rules | `(tactic| walk_at "subscriptTail Name Constant ref int") => `(tactic| (k_here; (with_reducible show wpAny _ _ (subscriptTail _ _ (Value.ref _) (Value.int 0 _)) _ _ _); k_dflt (refine' sub_l0 ?zy0T ?zy0L ?_ ?zy0s; (case zy0T => exact tupAt_led (by k_asm) (by (repeat (first | with_reducible_and_instances exact List.Mem.head _ | with_reducible assumption | with_reducible_and_instances assumption | refine List.Mem.tail _ ?_))) (by with_reducible assumption)); (case zy0L => k_extra "len"); (case zy0s => with_unfolding_all rfl)); intro v9))
local macro_rules | `(tactic| walk_at "subscriptTail Name Constant ref int") => `(tactic| (k_here; (with_reducible show wpAny _ _ (subscriptTail _ _ (Value.ref _) (Value.int 1 _)) _ _ _); k_dflt (refine' sub_l1 ?zy1T ?zy1L ?_ ?zy1s; (case zy1T => exact tupAt_led (by k_asm) (by (repeat (first | with_reducible_and_instances exact List.Mem.head _ | with_reducible assumption | with_reducible_and_instances assumption | refine List.Mem.tail _ ?_))) (by with_reducible assumption)); (case zy1L => k_extra "len"); (case zy1s => with_unfolding_all rfl)); intro v9))
local macro_rules | `(tactic| walk_at "subscriptTail Name Constant ref int") => `(tactic| (k_here; (with_reducible show wpAny _ _ (subscriptTail _ _ (Value.ref _) (Value.int 2 _)) _ _ _); k_dflt (refine' sub_l2 ?zy2T ?zy2L ?_ ?zy2s; (case zy2T => exact tupAt_led (by k_asm) (by (repeat (first | with_reducible_and_instances exact List.Mem.head _ | with_reducible assumption | with_reducible_and_instances assumption | refine List.Mem.tail _ ?_))) (by with_reducible assumption)); (case zy2L => k_extra "len"); (case zy2s => with_unfolding_all rfl)); intro v9))
local macro_rules | `(tactic| walk_at "subscriptTail Name Constant ref int") => `(tactic| (k_here; (with_reducible show wpAny _ _ (subscriptTail _ _ (Value.ref _) (Value.int 3 _)) _ _ _); k_dflt (refine' sub_l3 ?zy3T ?zy3L ?_ ?zy3s; (case zy3T => exact tupAt_led (by k_asm) (by (repeat (first | with_reducible_and_instances exact List.Mem.head _ | with_reducible assumption | with_reducible_and_instances assumption | refine List.Mem.tail _ ?_))) (by with_reducible assumption)); (case zy3L => k_extra "len"); (case zy3s => with_unfolding_all rfl)); intro v9))
local macro_rules | `(tactic| walk_at "subscriptTail Name Constant ref int") => `(tactic| (k_here; (with_reducible show wpAny _ _ (subscriptTail _ _ (Value.ref _) (Value.int 4 _)) _ _ _); k_dflt (refine' sub_l4 ?zy4T ?zy4L ?_ ?zy4s; (case zy4T => exact tupAt_led (by k_asm) (by (repeat (first | with_reducible_and_instances exact List.Mem.head _ | with_reducible assumption | with_reducible_and_instances assumption | refine List.Mem.tail _ ?_))) (by with_reducible assumption)); (case zy4L => k_extra "len"); (case zy4s => with_unfolding_all rfl)); intro v9))
theorem dat_len {k n : Int} (e : EP k n) : 2 ≤ (dat k n).length ∧ (k ≠ 1 → 3 ≤ (dat k n).length) ∧ (k = 5 → 5 ≤ (dat k n).length) := by
  obtain ⟨e0, e1, _⟩ := e
  rcases (by omega : k = 0 ∨ k = 1 ∨ k = 2 ∨ k = 3 ∨ k = 4 ∨ k = 5 ∨ k = 6 ∨ k = 7 ∨ k = 8 ∨ k = 9 ∨ k = 10 ∨ k = 11) with h | h | h | h | h | h | h | h | h | h | h | h
  · rw [← dat_0 h]; simp; omega
  · rw [← dat_1 h]; simp; omega
  · rw [← dat_2 h]; unfold dat2; split <;> (simp; omega)
  · rw [← dat_3 h]; simp; omega
  · rw [← dat_4 h]; unfold dat4; split <;> (simp; omega)
  · rw [← dat_5 h]; simp
  · rw [← dat_6 h]; simp; omega
  · rw [← dat_7 h]; simp; omega
  · rw [← dat_8 h]; simp; omega
  · rw [← dat_9 h]; simp; omega
  · rw [← dat_10 h]; simp; omega
  · rw [← dat_11 h]; unfold dat11; (repeat' split) <;> (simp; omega)
noncomputable abbrev G0 (k n : Int) : Int := (dat k n).getD 0 0
noncomputable abbrev G1 (k n : Int) : Int := (dat k n).getD 1 0
noncomputable abbrev G2 (k n : Int) : Int := (dat k n).getD 2 0
noncomputable abbrev G3 (k n : Int) : Int := (dat k n).getD 3 0
noncomputable abbrev G4 (k n : Int) : Int := (dat k n).getD 4 0
abbrev Civ3 (n x : Int) : Prop := cy x = cy n ∧ cm x = cm n ∧ cd x = cd n
theorem civ3 {n x : Int} (h : x = n) : Civ3 n x := by subst h; exact ⟨rfl, rfl, rfl⟩
theorem hk_0 {k n : Int} (h : k = 0) : jj (G0 k n) (G1 k n) (G2 k n) = n ∧ 0 < G2 k n ∧ G2 k n ≤ jml (G0 k n) (G1 k n) := by unfold G0 G1 G2; rw [← dat_0 h]; exact home_0 n
theorem hk_1 {k n : Int} (h : k = 1) : G0 k n = cy n ∧ G1 k n = yday n + 1 := by unfold G0 G1; rw [← dat_1 h]; exact home_1 n
theorem hk_2 {k n : Int} (h : k = 2) : ij (G0 k n) (G1 k n) (G2 k n) = n := by unfold G0 G1 G2; rw [← dat_2 h]; exact home_2 n
theorem hk_3 {k n : Int} (h : k = 3) : kj (G0 k n) (G1 k n) (G2 k n) = n := by unfold G0 G1 G2; rw [← dat_3 h]; exact home_3 n
theorem hk_4 {k n : Int} (h : k = 4) : nj (G0 k n) (G1 k n) (G2 k n) = n := by unfold G0 G1 G2; rw [← dat_4 h]; exact home_4 n
theorem hk_5 {k n : Int} (h : k = 5) : vj (G0 k n) (G1 k n) (G2 k n) (G3 k n) (G4 k n) = n := by unfold G0 G1 G2 G3 G4; rw [← dat_5 h]; exact home_5 n
theorem hk_6 {k n : Int} (e : EP k n) (h : k = 6) : aj (G0 k n) (G1 k n) (G2 k n) = n ∧ aok (G0 k n) (G1 k n) (G2 k n) := by unfold G0 G1 G2; rw [← dat_6 h]; exact home_6 (e.2.2.2.1 h)
theorem hk_7 {k n : Int} (e : EP k n) (h : k = 7) : sj (G0 k n) (G1 k n) (G2 k n) = n ∧ sok (G0 k n) (G1 k n) (G2 k n) := by unfold G0 G1 G2; rw [← dat_7 h]; exact home_7 (e.2.2.2.2.1 h)
theorem hk_8 {k n : Int} (e : EP k n) (h : k = 8) : hj (G0 k n) (G1 k n) (G2 k n) = n ∧ -100 ≤ G0 k n ∧ 1 ≤ G1 k n ∧ G1 k n ≤ 13 ∧ 0 ≤ G2 k n := by unfold G0 G1 G2; rw [← dat_8 h]; exact home_8 (e.2.2.2.2.2.1 h)
theorem hk_9 {k n : Int} (e : EP k n) (h : k = 9) : fj (G0 k n) (G1 k n) (G2 k n) = n ∧ fok (G0 k n) (G1 k n) (G2 k n) := by unfold G0 G1 G2; rw [← dat_9 h]; exact home_9 (e.2.2.2.2.2.2.1 h)
theorem hk_10 {k n : Int} (e : EP k n) (h : k = 10) : pj (G0 k n) (G1 k n) (G2 k n) = n ∧ pok (G0 k n) (G1 k n) (G2 k n) := by unfold G0 G1 G2; rw [← dat_10 h]; exact home_10 (e.2.2.2.2.2.2.2 h)
theorem hk_11 {k n : Int} (h : k = 11) : wj (G0 k n) (G1 k n) (G2 k n) = n ∧ 0 < G1 k n := by unfold G0 G1 G2; rw [← dat_11 h]; exact home_11 n
theorem ord2 {news} {n y x : Int} {t1 t2 : Tok} (h : y = cy n ∧ x = yday n + 1) : Call1 w loose mean mg mb 3 142 news [.int y t1, .int x t2] True (Ret3 (cy n) (cm n) (cd n)) := by
  obtain ⟨rfl, rfl⟩ := h
  exact to_greg_ordinal_spec news n t1 t2
local macro_rules | `(tactic| walk_at "call ref") => `(tactic| (k_here; (with_reducible show wpAny _ _ (call (Value.ref 142) _) _ _ _); k_dflt (refine' use1 (ord2 ?hmy) ?k1y ?k2y ?k3y ?k4y ?k5y ?kKy ?kdy ?kuy ?kpy ?_; (case hmy => k_extra "ord"); (case k1y => k_asm); (case k2y => k_asm); (case k3y => k_asm); (case k4y => k_asm); (case k5y => k_asm); (case kKy => first | exact rfl | assumption); (case kdy => first | omega | ktr_room); (case kuy => first | omega | ktr_units); (case kpy => trivial)); intro D9 t91 t92 t93 c9 h9 tk9 F9 N9 l9; (try simp only [AllLt, and_true] at l9); (try dsimp only); (try k_sweep); (try k_fold)))
set_option maxHeartbeats 2000000 in
theorem home_spec (news) (D : Addr) (k n : Int) (t1 : Tok) (vs : List Value) (c : Nat) (hm : (D, ({ cls := .type "tuple", data := .seq vs.toArray c } : Obj)) ∈ news) (hi : IntsAre vs (dat k n)) : Call1 w loose mean mg mb 10 573 news [.int k t1, .ref D] (EP k n) (Ret3 (cy n) (cm n) (cd n)) := by
  refine unwrap ?_
  simp (disch := k_dflt (
    k_with_none
    k_with "gl" => first | exact gl_to_gregorian_iso _ | exact gl_to_gregorian_ordinal _ | exact gl_to_gregorian_julian _ | exact gl_to_gregorian_islamic _ | exact gl_to_gregorian_coptic _ | exact gl_to_gregorian_indian_civil _ | exact gl_to_gregorian_mayan _ | exact gl_to_gregorian_armenian _ | exact gl_to_gregorian_hebrew _ | exact gl_to_gregorian_french_republican _ | exact gl_to_gregorian_positivist _
    dsimp only [Call1]
    intro dp un gd cn cs aF ccd cl outer A₀ base h₀ L mp s Q E B F X N T hk hdp hun hpre hret
    refine wpAny_call ?_
    k_dflt cell_enter
    (rename Fr _ _ _ _ => FE)
    (refine' startP (l' := [(Str.ofString "date", .ref D), (Str.ofString "which", .int k t1)]) ?cs ?nd FE ?e ?S ?_)
    (case cs => (first | (dsimp only; done) | rfl))
    (case nd => kernel_rfl!)
    (case e => kernel_rfl!)
    (case S => with_reducible (apply Sts.cons; apply Sts.cons; apply Sts.nil; (repeat (first | exact Nones.nil | apply Nones.cons)); (all_goals (repeat (first | exact St.here | apply St.there)))))
    (clear FE; intro hnd FE tk0; (try k_fold))
    have hl := dat_len hpre
    obtain ⟨l2, l3, l5⟩ := hl
    k_with "len" => first | omega | exact l3 (by assumption) | exact l5 (by assumption) | exact Nat.lt_of_lt_of_le (by decide) (l3 (by assumption)) | exact Nat.lt_of_lt_of_le (by decide) (l5 (by assumption))
    k_with "ord" => exact hk_1 (by assumption)
    k_with "pre" => first | exact (hk_0 (by assumption)).2 | exact (hk_6 hpre (by assumption)).2 | exact (hk_7 hpre (by assumption)).2 | exact (hk_8 hpre (by assumption)).2 | exact (hk_9 hpre (by assumption)).2 | exact (hk_10 hpre (by assumption)).2 | exact (hk_11 (k_11 hpre (by assumption) (by assumption) (by assumption) (by assumption) (by assumption) (by assumption) (by assumption) (by assumption) (by assumption) (by assumption) (by assumption))).2
    k_steps
    all_goals (refine' end3 hret ?q7a ?q7b ?q7c ?q7f ?q7n ?q7m ?q7s ?q7l; (case q7f => k_asm); (case q7n => k_asm); (case q7m => k_mem); (case q7s => (first | exact fun _ h => h | exact fun _ h => .tail _ h | exact fun _ h => .tail _ (.tail _ h) | exact fun _ h => .tail _ (.tail _ (.tail _ h)) | exact fun _ h => .tail _ (.tail _ (.tail _ (.tail _ h))) | exact fun _ h => .tail _ (.tail _ (.tail _ (.tail _ (.tail _ h)))) | (intro p9 hp9; repeat (first | exact hp9 | refine List.Mem.tail _ ?_)))); (case q7l => (first | assumption | k_extra "lt" | exact allLt_of (by assumption) | exact And.right (by assumption) | (simp only [AllLt, and_true] at *; first | assumption | exact allLt_of (by assumption) | exact And.right (by assumption) | (simp_all; done)))); (case q7a => (with_reducible first | rfl | exact (civ3 ((hk_0 (by assumption)).1)).1 | exact (civ3 ((hk_0 (by assumption)).1)).2.1 | exact (civ3 ((hk_0 (by assumption)).1)).2.2 | exact (civ3 (hk_2 (by assumption))).1 | exact (civ3 (hk_2 (by assumption))).2.1 | exact (civ3 (hk_2 (by assumption))).2.2 | exact (civ3 (hk_3 (by assumption))).1 | exact (civ3 (hk_3 (by assumption))).2.1 | exact (civ3 (hk_3 (by assumption))).2.2 | exact (civ3 (hk_4 (by assumption))).1 | exact (civ3 (hk_4 (by assumption))).2.1 | exact (civ3 (hk_4 (by assumption))).2.2 | exact (civ3 (hk_5 (by assumption))).1 | exact (civ3 (hk_5 (by assumption))).2.1 | exact (civ3 (hk_5 (by assumption))).2.2 | exact (civ3 ((hk_6 hpre (by assumption)).1)).1 | exact (civ3 ((hk_6 hpre (by assumption)).1)).2.1 | exact (civ3 ((hk_6 hpre (by assumption)).1)).2.2 | exact (civ3 ((hk_7 hpre (by assumption)).1)).1 | exact (civ3 ((hk_7 hpre (by assumption)).1)).2.1 | exact (civ3 ((hk_7 hpre (by assumption)).1)).2.2 | exact (civ3 ((hk_8 hpre (by assumption)).1)).1 | exact (civ3 ((hk_8 hpre (by assumption)).1)).2.1 | exact (civ3 ((hk_8 hpre (by assumption)).1)).2.2 | exact (civ3 ((hk_9 hpre (by assumption)).1)).1 | exact (civ3 ((hk_9 hpre (by assumption)).1)).2.1 | exact (civ3 ((hk_9 hpre (by assumption)).1)).2.2 | exact (civ3 ((hk_10 hpre (by assumption)).1)).1 | exact (civ3 ((hk_10 hpre (by assumption)).1)).2.1 | exact (civ3 ((hk_10 hpre (by assumption)).1)).2.2 | exact (civ3 ((hk_11 (k_11 hpre (by assumption) (by assumption) (by assumption) (by assumption) (by assumption) (by assumption) (by assumption) (by assumption) (by assumption) (by assumption) (by assumption) )).1)).1 | exact (civ3 ((hk_11 (k_11 hpre (by assumption) (by assumption) (by assumption) (by assumption) (by assumption) (by assumption) (by assumption) (by assumption) (by assumption) (by assumption) (by assumption) )).1)).2.1 | exact (civ3 ((hk_11 (k_11 hpre (by assumption) (by assumption) (by assumption) (by assumption) (by assumption) (by assumption) (by assumption) (by assumption) (by assumption) (by assumption) (by assumption) )).1)).2.2)); (case q7b => (with_reducible first | rfl | exact (civ3 ((hk_0 (by assumption)).1)).1 | exact (civ3 ((hk_0 (by assumption)).1)).2.1 | exact (civ3 ((hk_0 (by assumption)).1)).2.2 | exact (civ3 (hk_2 (by assumption))).1 | exact (civ3 (hk_2 (by assumption))).2.1 | exact (civ3 (hk_2 (by assumption))).2.2 | exact (civ3 (hk_3 (by assumption))).1 | exact (civ3 (hk_3 (by assumption))).2.1 | exact (civ3 (hk_3 (by assumption))).2.2 | exact (civ3 (hk_4 (by assumption))).1 | exact (civ3 (hk_4 (by assumption))).2.1 | exact (civ3 (hk_4 (by assumption))).2.2 | exact (civ3 (hk_5 (by assumption))).1 | exact (civ3 (hk_5 (by assumption))).2.1 | exact (civ3 (hk_5 (by assumption))).2.2 | exact (civ3 ((hk_6 hpre (by assumption)).1)).1 | exact (civ3 ((hk_6 hpre (by assumption)).1)).2.1 | exact (civ3 ((hk_6 hpre (by assumption)).1)).2.2 | exact (civ3 ((hk_7 hpre (by assumption)).1)).1 | exact (civ3 ((hk_7 hpre (by assumption)).1)).2.1 | exact (civ3 ((hk_7 hpre (by assumption)).1)).2.2 | exact (civ3 ((hk_8 hpre (by assumption)).1)).1 | exact (civ3 ((hk_8 hpre (by assumption)).1)).2.1 | exact (civ3 ((hk_8 hpre (by assumption)).1)).2.2 | exact (civ3 ((hk_9 hpre (by assumption)).1)).1 | exact (civ3 ((hk_9 hpre (by assumption)).1)).2.1 | exact (civ3 ((hk_9 hpre (by assumption)).1)).2.2 | exact (civ3 ((hk_10 hpre (by assumption)).1)).1 | exact (civ3 ((hk_10 hpre (by assumption)).1)).2.1 | exact (civ3 ((hk_10 hpre (by assumption)).1)).2.2 | exact (civ3 ((hk_11 (k_11 hpre (by assumption) (by assumption) (by assumption) (by assumption) (by assumption) (by assumption) (by assumption) (by assumption) (by assumption) (by assumption) (by assumption) )).1)).1 | exact (civ3 ((hk_11 (k_11 hpre (by assumption) (by assumption) (by assumption) (by assumption) (by assumption) (by assumption) (by assumption) (by assumption) (by assumption) (by assumption) (by assumption) )).1)).2.1 | exact (civ3 ((hk_11 (k_11 hpre (by assumption) (by assumption) (by assumption) (by assumption) (by assumption) (by assumption) (by assumption) (by assumption) (by assumption) (by assumption) (by assumption) )).1)).2.2)); (case q7c => (with_reducible first | rfl | exact (civ3 ((hk_0 (by assumption)).1)).1 | exact (civ3 ((hk_0 (by assumption)).1)).2.1 | exact (civ3 ((hk_0 (by assumption)).1)).2.2 | exact (civ3 (hk_2 (by assumption))).1 | exact (civ3 (hk_2 (by assumption))).2.1 | exact (civ3 (hk_2 (by assumption))).2.2 | exact (civ3 (hk_3 (by assumption))).1 | exact (civ3 (hk_3 (by assumption))).2.1 | exact (civ3 (hk_3 (by assumption))).2.2 | exact (civ3 (hk_4 (by assumption))).1 | exact (civ3 (hk_4 (by assumption))).2.1 | exact (civ3 (hk_4 (by assumption))).2.2 | exact (civ3 (hk_5 (by assumption))).1 | exact (civ3 (hk_5 (by assumption))).2.1 | exact (civ3 (hk_5 (by assumption))).2.2 | exact (civ3 ((hk_6 hpre (by assumption)).1)).1 | exact (civ3 ((hk_6 hpre (by assumption)).1)).2.1 | exact (civ3 ((hk_6 hpre (by assumption)).1)).2.2 | exact (civ3 ((hk_7 hpre (by assumption)).1)).1 | exact (civ3 ((hk_7 hpre (by assumption)).1)).2.1 | exact (civ3 ((hk_7 hpre (by assumption)).1)).2.2 | exact (civ3 ((hk_8 hpre (by assumption)).1)).1 | exact (civ3 ((hk_8 hpre (by assumption)).1)).2.1 | exact (civ3 ((hk_8 hpre (by assumption)).1)).2.2 | exact (civ3 ((hk_9 hpre (by assumption)).1)).1 | exact (civ3 ((hk_9 hpre (by assumption)).1)).2.1 | exact (civ3 ((hk_9 hpre (by assumption)).1)).2.2 | exact (civ3 ((hk_10 hpre (by assumption)).1)).1 | exact (civ3 ((hk_10 hpre (by assumption)).1)).2.1 | exact (civ3 ((hk_10 hpre (by assumption)).1)).2.2 | exact (civ3 ((hk_11 (k_11 hpre (by assumption) (by assumption) (by assumption) (by assumption) (by assumption) (by assumption) (by assumption) (by assumption) (by assumption) (by assumption) (by assumption) )).1)).1 | exact (civ3 ((hk_11 (k_11 hpre (by assumption) (by assumption) (by assumption) (by assumption) (by assumption) (by assumption) (by assumption) (by assumption) (by assumption) (by assumption) (by assumption) )).1)).2.1 | exact (civ3 ((hk_11 (k_11 hpre (by assumption) (by assumption) (by assumption) (by assumption) (by assumption) (by assumption) (by assumption) (by assumption) (by assumption) (by assumption) (by assumption) )).1)).2.2))))) only [↓wrap_true]
theorem homeI {news} {D : Addr} {k n : Int} {t1 : Tok} {vs : List Value} {c : Nat} (hm : (D, ({ cls := .type "tuple", data := .seq vs.toArray c } : Obj)) ∈ news) (hi : IntsAre vs (dat k n)) : Call1 w loose mean mg mb 10 573 news [.int k t1, .ref D] (EP k n) (Ret3 (cy n) (cm n) (cd n)) := home_spec news D k n t1 vs c hm hi
local macro_rules | `(tactic| walk_at "call ref") => `(tactic| (k_here; (with_reducible show wpAny _ _ (call (Value.ref 573) _) _ _ _); k_dflt (refine' use1 (homeI ?hmx ?hix) ?k1x ?k2x ?k3x ?k4x ?k5x ?kKx ?kdx ?kux ?kpx ?_; (case k1x => k_asm); (case k2x => k_asm); (case k3x => k_asm); (case k4x => k_asm); (case k5x => k_asm); (case hmx => k_mem); (case hix => with_reducible assumption); (case kKx => first | exact rfl | assumption); (case kdx => first | omega | ktr_room); (case kux => first | omega | ktr_units); (case kpx => k_extra "pre")); intro D9 t91 t92 t93 c9 h9 tk9 F9 N9 l9; (try simp only [AllLt, and_true] at l9); (try dsimp only); (try k_sweep); (try k_fold)))

-- A22
-- rules for the law's own walk: the loop over the picks, tables with None, comparisons that come out equal
section
variable {prog : Program} {wd : World} {A : Around} {E : Value → Shared → Prop} {s : Shared} {h₀ : Heap} {L : Addr} {m : Str → Option Value} {news : List (Addr × Obj)}
structure LS where
  n : Int
  tn : Tok
  D : Addr
  t1 : Tok
  t2 : Tok
  t3 : Tok
  c : Nat
  ys : List Value
  zs : List Int
  c2 : Nat
  pw : Option Value
  pe : Option Value
  pd : Option Value
  pp : Option Value
abbrev ledL (S0 : Addr) (c : LS) : List (Addr × Obj) := [(c.D, tup3 (cy c.n) (cm c.n) (cd c.n) c.t1 c.t2 c.t3 c.c), (S0, { cls := .type "list", data := .seq c.ys.toArray c.c2 })]
abbrev PL (i : Nat) (c : LS) : Prop := IntsAre c.ys c.zs ∧ c.ys.length ≤ i
def ItEnd (h₀ : Heap) (L : Addr) (ns : List (Str × NameKind)) (vs : List (Option Value)) (S0 : Addr) (news : List (Addr × Obj)) (s : Shared) (xv : Value) (s₁ : Shared) : Prop :=
  ∃ (ax : Addr) (ws : List Value) (c : Nat) (us : List Int) (h : Heap) (tk : Nat), xv = .ref ax ∧ s₁ = { s with heap := h, toks := tk } ∧ Fr h₀ L h (posMap ns vs) ∧ News h₀ L h ((ax, { cls := .type "list", data := .seq ws.toArray c }) :: news) ∧ IntsAre ws us ∧ us.length ≤ 1000 ∧ S0 ≠ ax
theorem itEnd {ns : List (Str × NameKind)} {vs : List (Option Value)} {S0 ax : Addr} {ws : List Value} {c : Nat} {us : List Int} {h : Heap} {tk : Nat} {news' : List (Addr × Obj)} (F : Fr h₀ L h (posMap ns vs)) (N : News h₀ L h news') (hm : (ax, ({ cls := .type "list", data := .seq ws.toArray c } : Obj)) ∈ news') (hn : ∀ p ∈ news, p ∈ news') (hi : IntsAre ws us) (hl : us.length ≤ 1000) (hne : S0 ≠ ax) :
    ItEnd h₀ L ns vs S0 news s (.ref ax) { s with heap := h, toks := tk } :=
  ⟨ax, ws, c, us, h, tk, rfl, rfl, F, fun p hp => by
    rcases List.mem_cons.mp hp with rfl | hp
    · exact N _ hm
    · exact N p (hn p hp), hi, hl, hne⟩
def TurnEnd (h₀ : Heap) (L : Addr) (ns : List (Str × NameKind)) (v : LS → List (Option Value)) (S0 I : Addr) (own : List (Addr × Obj)) (j : Nat) (s : Shared) (s' : Shared) : Prop :=
  ∃ (c : LS) (h : Heap) (tk : Nat), s' = { s with heap := h, toks := tk } ∧ Fr h₀ L h (posMap ns (v c)) ∧ News h₀ L h (ledL S0 c ++ own) ∧ PL j c ∧ c.D ≠ I
def TurnPost (h₀ : Heap) (L : Addr) (ns : List (Str × NameKind)) (v : LS → List (Option Value)) (S0 I : Addr) (own : List (Addr × Obj)) (j : Nat) (s : Shared) (f : Flow) (s' : Shared) : Prop :=
  match f with
  | .ret _ => False
  | .brk => False
  | _ => TurnEnd h₀ L ns v S0 I own j s s'
theorem turnEnd {ns : List (Str × NameKind)} {v : LS → List (Option Value)} {S0 I : Addr} {own : List (Addr × Obj)} {j : Nat} {h : Heap} {tk : Nat} {news' : List (Addr × Obj)} {oI : Obj} (c : LS) (hI : (I, oI) ∈ own) (F : Fr h₀ L h (posMap ns (v c))) (N : News h₀ L h news') (h1 : (c.D, tup3 (cy c.n) (cm c.n) (cd c.n) c.t1 c.t2 c.t3 c.c) ∈ news')
    (h2 : (S0, ({ cls := .type "list", data := .seq c.ys.toArray c.c2 } : Obj)) ∈ news') (hn : ∀ p ∈ own, p ∈ news') (hp : PL j c) (hd : c.D ≠ I) : TurnEnd h₀ L ns v S0 I own j s { s with heap := h, toks := tk } :=
  ⟨c, h, tk, rfl, F, fun p hp => by
    rcases List.mem_append.mp hp with hp | hp
    · rcases List.mem_cons.mp hp with rfl | hp
      · exact N _ h1
      · rw [List.mem_singleton.mp hp]; exact N _ h2
    · exact N p (hn p hp), hp, hd⟩
theorem news_comm {h : Heap} {a b : List (Addr × Obj)} (N : News h₀ L h (a ++ b)) : News h₀ L h (b ++ a) := fun p hp => N p (by
  rcases List.mem_append.mp hp with hp | hp
  · exact List.mem_append_right _ hp
  · exact List.mem_append_left _ hp)
theorem forLaw {L a : Addr} {cn : Str} {cs : Scope} {ccd : Value} {cl : List (Str × Addr)} {ns : List (Str × NameKind)} {vs : List (Option Value)} {px pos : Pos} {iter : Expr} {body rest : List Stmt} {Q : Flow → Shared → Prop}
    {v1 : Int → Tok → List (Option Value)} {v2 : Int → Tok → Addr → List (Option Value)} {v3 : Int → Tok → Addr → Option Value → List (Option Value)} {v4 : Int → Tok → Addr → Option Value → Option Value → List (Option Value)} {v5 : Int → Tok → Addr → Option Value → Option Value → Option Value → List (Option Value)} {v6 : Int → Tok → Addr → Option Value → Option Value → Option Value → Option Value → List (Option Value)}
    {n0 : Int} {tn0 : Tok} {D0 S0 : Addr} {t1 t2 t3 : Tok} {c c2 : Nat} {pw pe pd pp : Option Value}
    (hnd : okN ns = true) (hcs : cs.names = ns) (hk : cs.kind = .function) (F : Fr h₀ L s.heap (posMap ns vs)) (N : News h₀ L s.heap news) (hh : A.handled = none)
    (hD : (D0, tup3 (cy n0) (cm n0) (cd n0) t1 t2 t3 c) ∈ news) (hS : (S0, ({ cls := .type "list", data := .seq #[] c2 } : Obj)) ∈ news)
    (ha1 : At (Str.ofString "number") (some (.int n0 tn0)) ns vs) (hs1 : ∀ n t, Mine.St (Str.ofString "number") (some (.int n t)) ns vs (v1 n t))
    (ha2 : At (Str.ofString "civil") (some (.ref D0)) ns (v1 n0 tn0)) (hs2 : ∀ n t D, Mine.St (Str.ofString "civil") (some (.ref D)) ns (v1 n t) (v2 n t D))
    (ha3 : At (Str.ofString "which") pw ns (v2 n0 tn0 D0)) (hs3 : ∀ n t D x, Mine.St (Str.ofString "which") x ns (v2 n t D) (v3 n t D x))
    (ha4 : At (Str.ofString "era") pe ns (v3 n0 tn0 D0 pw)) (hs4 : ∀ n t D x y, Mine.St (Str.ofString "era") y ns (v3 n t D x) (v4 n t D x y))
    (ha5 : At (Str.ofString "date") pd ns (v4 n0 tn0 D0 pw pe)) (hs5 : ∀ n t D x y z, Mine.St (Str.ofString "date") z ns (v4 n t D x y) (v5 n t D x y z))
    (ha6 : At (Str.ofString "pick") pp ns (v5 n0 tn0 D0 pw pe pd)) (hs6 : ∀ n t D x y z q, Mine.St (Str.ofString "pick") q ns (v5 n t D x y z) (v6 n t D x y z q))
    (src : wpAny (model prog wd) A (eval iter (envX cn cs L a ccd cl)) (ItEnd h₀ L ns vs S0 news s) (fun _ _ => False) s)
    (turn : ∀ (i : Nat) (k : Int) (t : Tok) (c : LS) (h : Heap) (tk : Nat) (own : List (Addr × Obj)) (I : Addr) (oI : Obj), i < 1000 → PL i c → (I, oI) ∈ own → (∀ p ∈ own, p.1 ≠ S0) → c.D ≠ I → @Ne Nat c.D S0 →
      Fr h₀ L h (posMap ns (v6 c.n c.tn c.D c.pw c.pe c.pd (some (.int k t)))) → News h₀ L h (ledL S0 c ++ own) →
      wpAny (model prog wd) A (execs body (envX cn cs L a ccd cl)) (TurnPost h₀ L ns (fun c => v6 c.n c.tn c.D c.pw c.pe c.pd c.pp) S0 I own (i + 1) { s with heap := h, toks := tk }) (fun _ _ => False) { s with heap := h, toks := tk })
    (done : ∀ (c : LS) (h : Heap) (tk : Nat), Fr h₀ L h (posMap ns (v6 c.n c.tn c.D c.pw c.pe c.pd c.pp)) → News h₀ L h (ledL S0 c) → wpAny (model prog wd) A (execs rest (envX cn cs L a ccd cl)) Q E { s with heap := h, toks := tk })
    (hs : ∀ z, foldedSetIterable iter (envX cn cs L a ccd cl) z = pure z) :
    wpAny (model prog wd) A (execs (.For (.Name (Str.ofString "pick") px) iter body [] pos :: rest) (envX cn cs L a ccd cl)) Q E s := by
  subst hcs
  have same : ∀ {x : Str} {o : Option Value} {us us' : List (Option Value)}, At x o cs.names us → Mine.St x o cs.names us us' → posMap cs.names us = posMap cs.names us' := by
    intro x o us us' ha hs
    rw [← hs.set hnd]
    funext z
    by_cases hz : z = x
    · subst hz; rw [if_pos rfl, ha.get hnd]
    · rw [if_neg hz]
  refine wpAny_execs_cons (wpAny_noRaise (For_invV h₀ ((hs6 0 0 0 none none none none).lk.lookup hnd).1 ?_ (wpAny_mono src (fun xv s₁ h₁ => ?_) fun _ _ e => e) hs PassesOwn.never))
  · show (cs.kind == .class || (cs.kind == .module && L != mainGlobals)) = false
    rw [hk]; rfl
  obtain ⟨ax, ws, ca, us, h, tk, rfl, rfl, F1, N1, hi, hl, hne⟩ := h₁
  have hL : Heap.IsList h ax ws.toArray := News.isList N1 (.head _)
  have hlt : ax < h.objs.size := by obtain ⟨_, e, _⟩ := hL; exact Heap.lt_size e
  have hlen := hi.length
  refine wpAny_pyIter_list hL ?_
  have up : ∀ b o, h.get? b = some o → (h.push { cls := .type "list_iterator", data := .fields #[.ref ax, .int 0 0] }).get? b = some o := fun b o e => Heap.get?_push_of_some _ e
  have W := Walks.list (prog := prog) (w := wd) hh h.objs.size ax (Nat.ne_of_lt hlt) ws.toArray
  have W2 := walks_mono (P' := fun i v => ∃ t, v = .int (us.getD i 0) t) W fun i v _ hv => by
    have hv' : ws[i]? = some v := by simpa using hv
    have hlt : i < us.length := by
      rw [← hlen]
      exact (List.getElem?_eq_some_iff.mp hv').1
    obtain ⟨t, e⟩ := ints_at hi hlt
    rw [e] at hv'
    exact ⟨t, (Option.some.inj hv').symm⟩
  have hsz2 : ws.toArray.size = us.length := by rw [List.size_toArray, hlen]
  rw [hsz2] at W2
  have lt0 : ∀ p ∈ news, p.1 < h.objs.size := fun p hp => Heap.lt_size (N1 p (.tail _ hp)).1
  have hI0 : h₀.get? h.objs.size = none := Heap.get?_none_of_le (Nat.le_of_lt (Nat.lt_of_le_of_lt F1.above F1.ns.lt))
  have hax0 : h₀.get? ax = none := (N1 _ (.head _)).2.2
  let c0 : LS := ⟨n0, tn0, D0, t1, t2, t3, c, [], [], c2, pw, pe, pd, pp⟩
  have F2 : Fr h₀ L h (posMap cs.names (v6 n0 tn0 D0 pw pe pd pp)) := by
    rw [← same ha6 (hs6 _ _ _ _ _ _ _), ← same ha5 (hs5 _ _ _ _ _ _), ← same ha4 (hs4 _ _ _ _ _), ← same ha3 (hs3 _ _ _ _), ← same ha2 (hs2 _ _ _), ← same ha1 (hs1 _ _)]
    exact F1
  have NL : News h₀ L h (ledL S0 c0) := fun p hp => by
    rcases List.mem_cons.mp hp with rfl | hp
    · exact N1 _ (.tail _ hD)
    · rw [List.mem_singleton.mp hp]; exact N1 _ (.tail _ hS)
  have hDI : D0 ≠ h.objs.size := Nat.ne_of_lt (lt0 _ hD)
  have hSI : S0 ≠ h.objs.size := Nat.ne_of_lt (lt0 _ hS)
  refine ⟨h.objs.size, _, [h.objs.size], us.length, _, _, posMap cs.names (v6 n0 tn0 D0 pw pe pd pp), ledL S0 c0, fun i m nx => ∃ c : LS, m = posMap cs.names (v6 c.n c.tn c.D c.pw c.pe c.pd c.pp) ∧ nx = ledL S0 c ∧ PL i c ∧ c.D ≠ h.objs.size, rfl, W2, ?_, ?_, ?_, ⟨⟨_, Heap.get?_push_size _ rfl, rfl, rfl⟩, hL.push _⟩, F2.push _, NL.grown up, ⟨c0, rfl, rfl, ⟨.nil, Nat.le_refl _⟩, hDI⟩, ?_, ?_⟩
  · intro hm'
    rcases List.mem_cons.mp hm' with e | hm'
    · exact absurd F1.ns.lt (e ▸ Nat.lt_irrefl _)
    · exact (N1 _ (.head _)).2.1 (List.mem_singleton.mp hm').symm
  · intro b hb; rw [List.mem_singleton.mp hb]; exact hI0
  · intro p hp hb
    rcases List.mem_cons.mp hp with rfl | hp
    · exact hDI (List.mem_singleton.mp hb)
    · rw [List.mem_singleton.mp hp] at hb; exact hSI (List.mem_singleton.mp hb)
  · rintro i v m₁ news₁ s₁ own ⟨h2, tk2, rfl⟩ hin ⟨t, rfl⟩ ⟨c, rfl, rfl, hp, hcd⟩ hoff hown hval hall st F₁ N₁
    have hIo : ∃ oI, (h.objs.size, oI) ∈ own := by
      obtain ⟨⟨oI, eI, _⟩, _⟩ := st
      exact ⟨oI, hall _ (.head _) hI0 oI eI⟩
    obtain ⟨oI, hIo⟩ := hIo
    have e : (fun y => if y = Str.ofString "pick" then some (Value.int (us.getD i 0) t) else posMap cs.names (v6 c.n c.tn c.D c.pw c.pe c.pd c.pp) y) = posMap cs.names (v6 c.n c.tn c.D c.pw c.pe c.pd (some (.int (us.getD i 0) t))) := by
      rw [← (hs6 c.n c.tn c.D c.pw c.pe c.pd c.pp).set hnd, ← (hs6 c.n c.tn c.D c.pw c.pe c.pd (some (.int (us.getD i 0) t))).set hnd]
      funext y
      by_cases hy : y = Str.ofString "pick"
      · simp [hy]
      · simp [hy]
    rw [e] at F₁
    have hSo : ∀ p ∈ own, p.1 ≠ S0 := fun p hp e => by
      rcases List.mem_cons.mp (hown p hp) with q | q
      · exact hSI (e ▸ q)
      · exact hne (e ▸ List.mem_singleton.mp q)
    have hDS : @Ne Nat c.D S0 := fun e => by
      have a := (N₁ (c.D, tup3 (cy c.n) (cm c.n) (cd c.n) c.t1 c.t2 c.t3 c.c) (List.mem_append_right _ (.head _))).1
      have b := (N₁ (S0, _) (List.mem_append_right _ (.tail _ (.head _)))).1
      rw [show c.D = S0 from e, b] at a
      injection a with a
      have q := congrArg Obj.cls a
      simp at q
    refine wpAny_mono (turn i _ t c h2 tk2 own h.objs.size oI (by omega) hp hIo hSo hcd hDS F₁ (news_comm N₁)) (fun f s₂ p => ?_) fun _ _ e => e
    cases f with
    | ret v => exact p.elim
    | brk => exact p.elim
    | next =>
      obtain ⟨c', h', tk', rfl, F', N', hp', hd'⟩ := p
      refine ⟨rfl, h', tk', _, ledL S0 c', rfl, F', news_comm N', ?_, c', rfl, rfl, hp', hd'⟩
      intro p hp hb
      rcases List.mem_cons.mp hp with rfl | hp
      · exact hd' (List.mem_singleton.mp hb)
      · rw [List.mem_singleton.mp hp] at hb; exact hSI (List.mem_singleton.mp hb)
    | cont =>
      obtain ⟨c', h', tk', rfl, F', N', hp', hd'⟩ := p
      refine ⟨rfl, h', tk', _, ledL S0 c', rfl, F', news_comm N', ?_, c', rfl, rfl, hp', hd'⟩
      intro p hp hb
      rcases List.mem_cons.mp hp with rfl | hp
      · exact hd' (List.mem_singleton.mp hb)
      · rw [List.mem_singleton.mp hp] at hb; exact hSI (List.mem_singleton.mp hb)
  · rintro h' tk' m' nx F' N' _ ⟨c, rfl, rfl, _, _⟩
    exact done c h' tk' F' N'
end

-- A23
section
variable {prog : Program} {wd : World} {A : Around} {E : Value → Shared → Prop} {s : Shared} {h₀ : Heap} {L : Addr} {m : Str → Option Value} {news : List (Addr × Obj)}
theorem eqAt_ints {vs ws : List Value} {zs : List Int} (hi : IntsAre vs zs) (hj : IntsAre ws zs) (j : Nat) (h1 : j < vs.toArray.size) (h2 : j < ws.toArray.size) : PySem.SeqAt.EqAt A s vs.toArray[j] ws.toArray[j] true := by
  have l1 := hi.length
  have hz : j < zs.length := by rw [← l1]; simpa using h1
  obtain ⟨t, e⟩ := ints_at hi hz
  obtain ⟨u, e'⟩ := ints_at hj hz
  have a : vs.toArray[j] = .int (zs.getD j 0) t := by
    have : vs[j]? = some vs.toArray[j] := by simpa using List.getElem?_eq_getElem (l := vs) (i := j) (by simpa using h1)
    rw [e] at this
    exact (Option.some.inj this).symm
  have b : ws.toArray[j] = .int (zs.getD j 0) u := by
    have : ws[j]? = some ws.toArray[j] := by simpa using List.getElem?_eq_getElem (l := ws) (i := j) (by simpa using h2)
    rw [e'] at this
    exact (Option.some.inj this).symm
  rw [a, b]
  have := PySem.SeqAt.EqAt.int_int (A := A) (s := s) (zs.getD j 0) t (zs.getD j 0) u
  simpa using this
theorem all_true {vs ws : List Value} {zs : List Int} (hi : IntsAre vs zs) (hj : IntsAre ws zs) : ((List.range (min vs.toArray.size ws.toArray.size)).all (fun _ => true) && vs.toArray.size == ws.toArray.size) = true := by
  simp [hi.length, hj.length]
theorem eq_tups {a b : Addr} {vs ws : List Value} {zs : List Int} {c1 c2 : Nat} {Q : Value → Shared → Prop} (N : News h₀ L s.heap news) (h1 : (a, ({ cls := .type "tuple", data := .seq vs.toArray c1 } : Obj)) ∈ news) (h2 : (b, ({ cls := .type "tuple", data := .seq ws.toArray c2 } : Obj)) ∈ news)
    (hi : IntsAre vs zs) (hj : IntsAre ws zs) (hu : A.units < cLine) (h : Q (.bool true) s) : wpAny (model prog wd) A (compareOp .Eq (.ref a) (.ref b)) Q E s :=
  PySem.SeqAt.eq_tupleAt (News.isTup N h1) (News.isTup N h2) hu (fun j a b => eqAt_ints hi hj j a b) (by rw [all_true hi hj]; exact h)
theorem ne_tups {a b : Addr} {vs ws : List Value} {zs : List Int} {c1 c2 : Nat} {Q : Value → Shared → Prop} (N : News h₀ L s.heap news) (h1 : (a, ({ cls := .type "tuple", data := .seq vs.toArray c1 } : Obj)) ∈ news) (h2 : (b, ({ cls := .type "tuple", data := .seq ws.toArray c2 } : Obj)) ∈ news)
    (hi : IntsAre vs zs) (hj : IntsAre ws zs) (hu : A.units < cLine) (h : Q (.bool false) s) : wpAny (model prog wd) A (compareOp .NotEq (.ref a) (.ref b)) Q E s :=
  cmp_ofNotEq (PySem.SeqAt.RcNeAt.tuples (News.isTup N h1) (News.isTup N h2) hu (fun j a b => eqAt_ints hi hj j a b) prog wd E Q (by rw [all_true hi hj]; exact h))
theorem in_lst {D : Addr} {vs : List Value} {zs : List Int} {c : Nat} {k : Int} {u : Tok} {Q : Value → Shared → Prop} (N : News h₀ L s.heap news) (hm : (D, ({ cls := .type "list", data := .seq vs.toArray c } : Obj)) ∈ news) (hi : IntsAre vs zs)
    (ht : Q (.bool true) s) (hf : Q (.bool false) s) : wpAny (model prog wd) A (compareOp .In (.int k u) (.ref D)) Q E s := by
  refine PySem.SeqAt.in_listAt (fun y => match y with | .int a _ => a == k | _ => false) (News.isList N hm) (fun y hy => ?_) ?_
  · have hy' : y ∈ vs := by simpa using hy
    obtain ⟨j, hj, e⟩ := List.mem_iff_getElem.mp hy'
    obtain ⟨t, e'⟩ := ints_at hi (k := j) (by rw [← hi.length]; exact hj)
    rw [List.getElem?_eq_getElem hj, e] at e'
    rw [Option.some.inj e']
    exact PySem.SeqAt.EqAt.int_int _ t k u
  · cases vs.toArray.any (fun y => match y with | .int a _ => a == k | _ => false)
    · exact hf
    · exact ht
theorem app_led {D : Addr} {ys : List Value} {n : Nat} {x : Value} {news' : List (Addr × Obj)} {Q : Value → Shared → Prop} (F : Fr h₀ L s.heap m) (N : News h₀ L s.heap news) (U : Upd D { cls := .type "list", data := .seq ys.toArray n } { cls := .type "list", data := .seq (ys ++ [x]).toArray (n + 1) } news news') (hl : ys.length ≤ 1000)
    (h : ∀ h', Fr h₀ L h' m → News h₀ L h' news' → Q .none { s with heap := h' }) : wpAny (model prog wd) A (call (.builtin "list.append") [.ref D, x]) Q E s :=
  append_K (its := ys.toArray) (n := n) F N (by rw [List.push_toArray]; exact U) h (by rw [List.size_toArray, sizeLine_eq]; omega)
def EraN (k : Int) : Prop := k ≤ 4 ∨ k = 11
def EraI (k e : Int) : Prop := (k = 5 ∧ e = 584283) ∨ (k = 6 ∧ e = 1922868) ∨ (k = 7 ∧ e = 2117212) ∨ (k = 8 ∧ e = 347998) ∨ (k = 9 ∧ e = 2375840) ∨ (k = 10 ∧ e = 2374480)
def LimI (k e : Int) : Prop := (k = 5 ∧ e = 584283) ∨ (k = 6 ∧ e = 1922502) ∨ (k = 7 ∧ e = 2117211) ∨ (k = 9 ∧ e = 2375840) ∨ (k = 10 ∧ e = 2374480)
def LimN (k : Int) : Prop := k ≤ 4 ∨ k = 8 ∨ k = 11
theorem lim_no {k e : Int} {P : Prop} (h : LimI k e) (h2 : LimN k) : P := by unfold LimI LimN at *; omega
theorem lt12n {k : Int} (h : 0 ≤ k ∧ k ≤ 11) : k = 0 ∨ k = 1 ∨ k = 2 ∨ k = 3 ∨ k = 4 ∨ k = 5 ∨ k = 6 ∨ k = 7 ∨ k = 8 ∨ k = 9 ∨ k = 10 ∨ k = 11 := by omega
theorem sub_top {value slice : Expr} {t : Addr} {l : List Value} {k : Int} {u : Tok} {v : Value} {Q : Value → Shared → Prop} (T : IsTup s.heap t l.toArray) (hk : 0 ≤ k ∧ k < l.length ∧ k < 2 ^ 62) (hv : l[k.toNat]? = some v) (h : Q v s)
    (hs : subscripted slice false (.ref t) (.int k u) = operate [.ref t, .int k u] (getItem (.ref t) (.int k u)) := by with_unfolding_all rfl) :
    wpAny (model prog wd) A (subscriptTail value slice (.ref t) (.int k u)) Q E s := by
  refine item_tupleT (j := k.toNat) T (by omega) (by omega) ?_ hv h hs
  unfold seqIndex?
  have h1 : ¬ k < 0 := by omega
  simp [h1, hk.1, hk.2.1]
theorem sub_eras {K : Frag} {value slice : Expr} {t : Addr} {dd : Option Addr} {n : Nat} {sl : Array (Option Value)} {a5 a6 a7 a8 a9 a10 : Tok} {k : Int} {u : Tok} {Q : Value → Shared → Prop} (F : Fr h₀ L s.heap m) (X : K.In h₀)
    (hl : K.lookup t = some ⟨.type "tuple", dd, .seq (List.toArray [.none, .none, .none, .none, .none, .int 584283 a5, .int 1922868 a6, .int 2117212 a7, .int 347998 a8, .int 2375840 a9, .int 2374480 a10, .none]) n, sl⟩) (hk : 0 ≤ k ∧ k ≤ 11)
    (hn : EraN k → Q .none s) (hi : ∀ e v, EraI k e → Q (.int e v) s)
    (hs : subscripted slice false (.ref t) (.int k u) = operate [.ref t, .int k u] (getItem (.ref t) (.int k u)) := by with_unfolding_all rfl) :
    wpAny (model prog wd) A (subscriptTail value slice (.ref t) (.int k u)) Q E s := by
  have T := tupK (X.keeps F.keep) hl
  rcases lt12n hk with h | h | h | h | h | h | h | h | h | h | h | h <;> subst h
  · exact sub_top T ⟨by decide, by simp, by decide⟩ rfl (hn (.inl (by decide))) hs
  · exact sub_top T ⟨by decide, by simp, by decide⟩ rfl (hn (.inl (by decide))) hs
  · exact sub_top T ⟨by decide, by simp, by decide⟩ rfl (hn (.inl (by decide))) hs
  · exact sub_top T ⟨by decide, by simp, by decide⟩ rfl (hn (.inl (by decide))) hs
  · exact sub_top T ⟨by decide, by simp, by decide⟩ rfl (hn (.inl (by decide))) hs
  · exact sub_top T ⟨by decide, by simp, by decide⟩ rfl (hi _ _ (by unfold EraI; omega)) hs
  · exact sub_top T ⟨by decide, by simp, by decide⟩ rfl (hi _ _ (by unfold EraI; omega)) hs
  · exact sub_top T ⟨by decide, by simp, by decide⟩ rfl (hi _ _ (by unfold EraI; omega)) hs
  · exact sub_top T ⟨by decide, by simp, by decide⟩ rfl (hi _ _ (by unfold EraI; omega)) hs
  · exact sub_top T ⟨by decide, by simp, by decide⟩ rfl (hi _ _ (by unfold EraI; omega)) hs
  · exact sub_top T ⟨by decide, by simp, by decide⟩ rfl (hi _ _ (by unfold EraI; omega)) hs
  · exact sub_top T ⟨by decide, by simp, by decide⟩ rfl (hn (.inr rfl)) hs
theorem sub_lims {K : Frag} {value slice : Expr} {t : Addr} {dd : Option Addr} {n : Nat} {sl : Array (Option Value)} {a5 a6 a7 a9 a10 : Tok} {k : Int} {u : Tok} {Q : Value → Shared → Prop} (F : Fr h₀ L s.heap m) (X : K.In h₀)
    (hl : K.lookup t = some ⟨.type "tuple", dd, .seq (List.toArray [.none, .none, .none, .none, .none, .int 584283 a5, .int 1922502 a6, .int 2117211 a7, .none, .int 2375840 a9, .int 2374480 a10, .none]) n, sl⟩) (hk : 0 ≤ k ∧ k ≤ 11)
    (hn : LimN k → Q .none s) (hi : ∀ e v, LimI k e → Q (.int e v) s)
    (hs : subscripted slice false (.ref t) (.int k u) = operate [.ref t, .int k u] (getItem (.ref t) (.int k u)) := by with_unfolding_all rfl) :
    wpAny (model prog wd) A (subscriptTail value slice (.ref t) (.int k u)) Q E s := by
  have T := tupK (X.keeps F.keep) hl
  rcases lt12n hk with h | h | h | h | h | h | h | h | h | h | h | h <;> subst h
  · exact sub_top T ⟨by decide, by simp, by decide⟩ rfl (hn (by unfold LimN; omega)) hs
  · exact sub_top T ⟨by decide, by simp, by decide⟩ rfl (hn (by unfold LimN; omega)) hs
  · exact sub_top T ⟨by decide, by simp, by decide⟩ rfl (hn (by unfold LimN; omega)) hs
  · exact sub_top T ⟨by decide, by simp, by decide⟩ rfl (hn (by unfold LimN; omega)) hs
  · exact sub_top T ⟨by decide, by simp, by decide⟩ rfl (hn (by unfold LimN; omega)) hs
  · exact sub_top T ⟨by decide, by simp, by decide⟩ rfl (hi _ _ (by unfold LimI; omega)) hs
  · exact sub_top T ⟨by decide, by simp, by decide⟩ rfl (hi _ _ (by unfold LimI; omega)) hs
  · exact sub_top T ⟨by decide, by simp, by decide⟩ rfl (hi _ _ (by unfold LimI; omega)) hs
  · exact sub_top T ⟨by decide, by simp, by decide⟩ rfl (hn (by unfold LimN; omega)) hs
  · exact sub_top T ⟨by decide, by simp, by decide⟩ rfl (hi _ _ (by unfold LimI; omega)) hs
  · exact sub_top T ⟨by decide, by simp, by decide⟩ rfl (hi _ _ (by unfold LimI; omega)) hs
  · exact sub_top T ⟨by decide, by simp, by decide⟩ rfl (hn (by unfold LimN; omega)) hs
end

-- A24
section
variable {M : Model} {A : Around} {E : Value → Shared → Prop} {s : Shared} {h₀ : Heap} {L a : Addr} {cn : Str} {cs : Scope} {ccd : Value} {cl : List (Str × Addr)} {ns : List (Str × NameKind)} {vs : List (Option Value)} {news : List (Addr × Obj)}
def CutEndE (h₀ : Heap) (L : Addr) (ns : List (Str × NameKind)) (vs' : Int → Tok → List (Option Value)) (news : List (Addr × Obj)) (s : Shared) (f : Flow) (s' : Shared) : Prop :=
  f = .next ∧ ∃ (o : Int) (h : Heap) (tk : Nat) (t : Tok), s' = { s with heap := h, toks := tk } ∧ Fr h₀ L h (posMap ns (vs' o t)) ∧ News h₀ L h news
theorem cutE {st : Stmt} {rest : List Stmt} {env : Env} {Q : Flow → Shared → Prop} {vs' : Int → Tok → List (Option Value)} (x : String) (hnd : okN ns = true) (_F : Fr h₀ L s.heap (posMap ns vs)) (_N : News h₀ L s.heap news) (hs : ∀ o t, St (Str.ofString x) (some (.int o t)) ns vs (vs' o t))
    (hb : okN ns = true → (∀ o t, St (Str.ofString x) (some (.int o t)) ns vs (vs' o t)) → wpAny M A (exec st env) (fun f s' => CutEndE h₀ L ns vs' news s f s') E s)
    (hk : ∀ o t h tk, Fr h₀ L h (posMap ns (vs' o t)) → News h₀ L h news → wpAny M A (execs rest env) Q E { s with heap := h, toks := tk }) : wpAny M A (execs (st :: rest) env) Q E s := by
  refine wpAny_execs_cons (wpAny_mono (hb hnd hs) (fun f s' hf => ?_) fun _ _ h => h)
  obtain ⟨rfl, o, h, tk, t, rfl, F, N⟩ := hf
  exact hk o t h tk F N
theorem cutEndE {x : Str} {y : Int} {t : Tok} {vs2 : List (Option Value)} {vs' : Int → Tok → List (Option Value)} {h : Heap} {tk : Nat} {news' : List (Addr × Obj)} (hs : ∀ o t, St x (some (.int o t)) ns vs (vs' o t)) (hnd : okN ns = true) (h2 : St x (some (.int y t)) ns vs vs2)
    (F : Fr h₀ L h (posMap ns vs2)) (N : News h₀ L h news') (hn : ∀ p ∈ news, p ∈ news') : CutEndE h₀ L ns vs' news s .next { s with heap := h, toks := tk } := by
  refine ⟨rfl, y, h, tk, t, rfl, ?_, fun p hp => N p (hn p hp)⟩
  rw [← (hs y t).set hnd, h2.set hnd]
  exact F
theorem startQ {b : List Stmt} {Q : Flow → Shared → Prop} {h h1 : Heap} {k : Nat} {x : String} {v : Value} (_hcs : cs.names = ns) (hnd : okN ns = true) (F : Fr h₀ L h (fun z => List.lookup z [(Str.ofString x, v)])) (S : Sts ns [(Str.ofString x, v)] vs)
    (g : okN ns = true → Fr h₀ L h (posMap ns vs) → ∀ tk, wpAny M A (execs b (envX cn cs L a ccd cl)) Q E { s with heap := h1, toks := tk }) : wpAny M A (execs b (envX cn cs L a ccd cl)) Q E { s with heap := h1, toks := k } := startP _hcs hnd F rfl S g
end
theorem civil2_spec (news) (n : Int) (t1 : Tok) : Call1 w loose mean mg mb 2 514 news [.int (n - 1721426) t1] True (Ret3 (cy n) (cm n) (cd n)) := by
  have h := civil_spec (w := w) (loose := loose) (mean := mean) (mg := mg) (mb := mb) news (n - 1721426) t1
  rw [show n - 1721426 + 1721426 = n by omega] at h
  exact h
abbrev cnr : List Int := [0, 347998, 584283, 1721424, 1721426, 1825030, 1922868, 1948440, 2117212, 2374480, 2375840, 2451911]
def numOf (o : Int) : Int := if o % 4 = 0 then 2375000 + o / 4 % 110000 else if o % 4 = 1 then o / 4 % 4000000 - 400000 else if o % 4 = 2 then cnr.getD (o / 4 % 12).toNat 0 + o / 4 / 12 % 5 - 2 else o / 4
theorem num_a {o : Int} (h : o % 4 = 0) : 2375000 + o / 4 % 110000 = numOf o := by rw [numOf, if_pos h]
theorem num_b {o : Int} (h0 : o % 4 ≠ 0) (h : o % 4 = 1) : o / 4 % 4000000 - 400000 = numOf o := by rw [numOf, if_neg h0, if_pos h]
theorem num_c {o : Int} (h0 : o % 4 ≠ 0) (h1 : o % 4 ≠ 1) (h : o % 4 = 2) : cnr.getD (o / 4 % 12).toNat 0 + o / 4 / 12 % 5 - 2 = numOf o := by rw [numOf, if_neg h0, if_neg h1, if_pos h]
theorem num_d {o : Int} (h0 : o % 4 ≠ 0) (h1 : o % 4 ≠ 1) (h : o % 4 ≠ 2) : o / 4 = numOf o := by rw [numOf, if_neg h0, if_neg h1, if_neg h]
theorem cnr_in (x : Int) : 0 ≤ x % 12 ∧ x % 12 < (cnr.length : Int) ∧ x % 12 < 2 ^ 62 := by simp; omega
theorem ep_n {k n : Int} (hk : 0 ≤ k ∧ k ≤ 11) (h : EraN k) : EP k n := by unfold EraN at h; omega
theorem ep_i {k n e : Int} (h : EraI k e) (hn : e ≤ n) : EP k n := by unfold EraI at h; omega
theorem ep_8 {k n : Int} (e : EP k n) : 0 ≤ k ∧ k ≤ 11 ∧ (k = 8 → 347998 ≤ n) := ⟨e.1, e.2.1, e.2.2.2.2.2.1⟩
theorem rp_i {k n e l : Int} (h : EraI k e) (hl : LimI k l) (hn : n < l) : RP k n := by unfold EraI LimI at *; omega
theorem ord_day {k n : Int} (h : k = 1) : gjd ((dat k n).getD 0 0) 1 1 + (dat k n).getD 1 0 - 1 = n := by
  have a : (dat k n).getD 0 0 = cy n := (hk_1 (n := n) h).1
  have b : (dat k n).getD 1 0 = yday n + 1 := (hk_1 (n := n) h).2
  rw [a, b, gjd_jan1, yday_eq]
  omega
theorem in12 (x : Int) : 0 ≤ x % 12 ∧ x % 12 ≤ 11 := by omega
theorem ne_own {D I : Addr} {own : List (Addr × Obj)} {oI : Obj} (h : AllLt D own) (hI : (I, oI) ∈ own) : D ≠ I := Nat.ne_of_gt (allLt_mem h _ hI)
theorem pl_same {i : Nat} {ys : List Value} {zs : List Int} (h : IntsAre ys zs ∧ ys.length ≤ i) : IntsAre ys zs ∧ ys.length ≤ i + 1 := ⟨h.1, by omega⟩
theorem pl_step {i : Nat} {ys : List Value} {zs : List Int} {k : Int} {t : Tok} (h : IntsAre ys zs ∧ ys.length ≤ i) : IntsAre (ys ++ [Value.int k t]) (zs ++ [k]) ∧ (ys ++ [Value.int k t]).length ≤ i + 1 := ⟨h.1.append (by repeat constructor), by simp; omega⟩
theorem len_one {k n : Int} (h : k = 1) : 2 ≤ (dat k n).length := by rw [← dat_1 h]; simp

-- L0
local macro_rules | `(tactic| k_mem) => `(tactic| ((repeat (first | with_reducible_and_instances exact List.Mem.head _ | with_reducible assumption | refine List.Mem.tail _ ?_)); done))
local macro_rules | `(tactic| walk_at "ItEnd") => `(tactic| (k_here; k_dflt (refine' itEnd ?zie1 ?zie2 ?zie3 ?zie4 ?zie5 ?zie6 ?zie7; (case zie1 => k_asm); (case zie2 => k_asm); (case zie3 => k_mem); (case zie4 => (intro p9 hp9; repeat (first | exact hp9 | refine List.Mem.tail _ ?_))); (case zie5 => first | with_reducible assumption | (repeat constructor)); (case zie6 => first | (simp; done) | (rw [List.length_take]; omega)); (case zie7 => (k_ne)))))
local macro_rules | `(tactic| walk_at "CutEndE") => `(tactic| (k_here; k_dflt (refine' cutEndE (by assumption) (by assumption) ?zhs ?zhf ?zhn ?zhm; (case zhs => with_reducible (repeat (first | exact St.here | apply St.there))); (case zhf => k_asm); (case zhn => k_asm); (case zhm => (intro p9 hp9; repeat (first | exact hp9 | refine List.Mem.tail _ ?_))))))
local macro_rules | `(tactic| walk_at "TurnPost") => `(tactic| (dsimp only [TurnPost]))
local macro_rules | `(tactic| walk_at "TurnEnd") => `(tactic| (k_here; k_extra "turn end"))
local macro_rules | `(tactic| walk_at "execs cons For cons") => `(tactic| (k_here; k_extra "for law"))
local macro_rules | `(tactic| walk_at "compareOp Eq ref ref") => `(tactic| (k_here; k_dflt (refine' eq_tups ?zt1 ?zt2 ?zt3 ?zt4 ?zt5 ?zt6 ?_; (case zt1 => k_asm); (case zt2 => k_mem); (case zt3 => k_mem); (case zt4 => first | (with_reducible assumption) | (repeat constructor)); (case zt5 => first | (with_reducible assumption) | (repeat constructor)); (case zt6 => first | omega | ktr_units | decide))))
local macro_rules | `(tactic| walk_at "compareOp NotEq ref ref") => `(tactic| (k_here; k_dflt (refine' ne_tups ?zu1 ?zu2 ?zu3 ?zu4 ?zu5 ?zu6 ?_; (case zu1 => k_asm); (case zu2 => k_mem); (case zu3 => k_mem); (case zu4 => first | (with_reducible assumption) | (repeat constructor)); (case zu5 => first | (with_reducible assumption) | (repeat constructor)); (case zu6 => first | omega | ktr_units | decide))))
local macro_rules | `(tactic| walk_at "compareOp In int ref") => `(tactic| (k_here; k_dflt (refine' in_lst ?zv1 ?zv2 ?zv3 ?_ ?_; (case zv1 => k_asm); (case zv2 => k_mem); (case zv3 => with_reducible assumption))))
local macro_rules | `(tactic| k_all) => `(tactic| with_reducible assumption)
local macro_rules | `(tactic| walk_at "call builtin:list.append") => `(tactic| (k_here; k_dflt (refine' app_led ?zw1 ?zw2 ?zw3 ?zw4 ?_; (case zw1 => k_asm); (case zw2 => k_asm); (case zw3 => k_upd); (case zw4 => k_extra "short")); intro h' F' N'; (try k_sweep)))
local macro_rules | `(tactic| walk_at "subscriptTail Name Name ref int") => `(tactic| (k_here; k_dflt (refine' sub_lims ?yl1 ?yl2 ?yl3 ?yl4 ?_ ?_ ?yl5; (case yl1 => k_asm); (case yl2 => k_asm); (case yl3 => k_is); (case yl4 => exact in12 _); (case yl5 => with_unfolding_all rfl)); (all_goals (try intros))))
local macro_rules | `(tactic| walk_at "subscriptTail Name Name ref int") => `(tactic| (k_here; k_dflt (refine' sub_eras ?yk1 ?yk2 ?yk3 ?yk4 ?_ ?_ ?yk5; (case yk1 => k_asm); (case yk2 => k_asm); (case yk3 => k_is); (case yk4 => exact in12 _); (case yk5 => with_unfolding_all rfl)); (all_goals intros)))
local macro_rules | `(tactic| walk_at "compareOp Lt int none") => `(tactic| (k_here; exact lim_no (by with_reducible assumption) (by with_reducible assumption)))
theorem ne_same {prog : Program} {wd : World} {A : Around} {E : Value → Shared → Prop} {s : Shared} {a b : Int} {t u : Tok} {Q : Value → Shared → Prop} (e : a = b) (h : Q (.bool false) s) : wpAny (model prog wd) A (compareOp .NotEq (.int a t) (.int b u)) Q E s := PyProof.Rows.ne_int (by subst e; simpa using h)
theorem eq_same {prog : Program} {wd : World} {A : Around} {E : Value → Shared → Prop} {s : Shared} {a b : Int} {t u : Tok} {Q : Value → Shared → Prop} (e : a = b) (h : Q (.bool true) s) : wpAny (model prog wd) A (compareOp .Eq (.int a t) (.int b u)) Q E s := PyProof.Rows.eq_int (by subst e; simpa using h)
local macro_rules | `(tactic| walk_at "compareOp NotEq int int") => `(tactic| (k_here; (refine' ne_same ?yne ?_; (case yne => with_reducible first | exact civ_day _ | exact ord_day (by assumption)))))
local macro_rules | `(tactic| walk_at "compareOp Eq int int") => `(tactic| (k_here; (refine' eq_same ?yeq ?_; (case yeq => with_reducible first | exact civ_day _ | exact ord_day (by assumption)))))
local macro_rules | `(tactic| walk_at "call ref") => `(tactic| (k_here; (with_reducible show wpAny _ _ (call (Value.ref 514) _) _ _ _); k_dflt (refine' use1 (civil2_spec _ _ _) ?k1a514c154 ?k2a514c154 ?k3a514c154 ?k4a514c154 ?k5a514c154 ?kKa514c154 ?kda514c154 ?kua514c154 ?kpa514c154 ?_; (case k1a514c154 => k_asm); (case k2a514c154 => k_asm); (case k3a514c154 => k_asm); (case k4a514c154 => k_asm); (case k5a514c154 => k_asm); (case kKa514c154 => first | exact rfl | assumption); (case kda514c154 => first | omega | ktr_room); (case kua514c154 => first | omega | ktr_units); (case kpa514c154 => first | trivial | assumption | omega | (constructor <;> omega) | k_extra "pre")); intro D9 t91 t92 t93 c9 h9 tk9 F9 N9 l9; (try simp only [AllLt, and_true] at l9); (try dsimp only); (try k_sweep); (try k_fold)))
local macro_rules | `(tactic| walk_at "call ref") => `(tactic| (k_here; (with_reducible show wpAny _ _ (call (Value.ref 566) _) _ _ _); k_dflt (refine' refused_spec _ _ _ _ _ _ _ _ _ _ _ _ _ _ _ ?xr1 ?xr2 ?xr3 ?xr4 ?xr5 ?xr6 ?xr7 ?_; (case xr1 => k_asm); (case xr2 => k_asm); (case xr3 => k_asm); (case xr4 => k_asm); (case xr5 => k_asm); (case xr6 => first | exact rfl | assumption); (case xr7 => k_extra "pre")); intro h9 tk9 F9 N9; (try dsimp only); (try k_sweep); (try k_fold)))
set_option maxHeartbeats 6000000 in
theorem lawT : PySem.Challenge.rw_bn0013_01.Holds := hd (by
  refine unwrap ?_
  simp (disch := k_dflt (
    k_fill
    intro w s₀ s₁ mg mb G Y fa o pm cd doc dV kV ho hv hcd hD hmg hg args vals as hpre hlay hrd hwl hlo
    have KX := kIn_of Y
    refine Ground.open G ?_
    intro T B D TE TW
    clear D
    obtain ⟨_, _, M⟩ := bmod_of_top T
    obtain ⟨_, _, he, B0⟩ := based_of_top T rfl hmg ho hv
    have he' : cd = _ := he
    subst he'
    wrow_args hpre hlay hrd hwl hlo
    refine enter_call ?_
    w_top on
    refine codeAny_mono ?_ (fun _ _ g => GoodW.toG g)
    have K0 := below_caller (Top.heap T)
    w_call any ho hv hcd hD T F
    k_drop
    (rename Fr _ _ _ _ => FE)
    (rename News _ _ _ _ => NE)
    (refine' startQ (x := "script") ?zla ?zlb FE ?zld ?_)
    (case zla => (first | (dsimp only; done) | rfl))
    (case zlb => kernel_rfl!)
    (case zld => with_reducible (apply Sts.cons; apply Sts.nil; (repeat (first | exact Nones.nil | apply Nones.cons)); (all_goals (repeat (first | exact St.here | apply St.there)))))
    (clear FE; intro hnd FE tk0; (try k_fold))
    k_with "cut" => ((with_reducible show wpAny _ _ (execs (Stmt.If _ _ _ ⟨824, _, _, _⟩ :: _) _) _ _ _); (rename Fr _ _ _ _ => zF); (rename News _ _ _ _ => zN); k_dflt (refine' cut1 "number" (numOf o) (by assumption) zF zN ?zs1 ?_ ?_); (case zs1 => (intro t; with_reducible (repeat (first | exact St.here | apply St.there)))); (all_goals (intros; (try k_sweep); (try k_fold))))
    k_with "sub" => exact cnr_in _
    k_with "cuteq" => with_reducible first | exact num_a (by assumption) | exact num_b (by assumption) (by assumption) | exact num_c (by assumption) (by assumption) (by assumption) | exact num_d (by assumption) (by assumption) (by assumption)
    k_with "for law" => ((rename Fr _ _ _ _ => zF); (rename News _ _ _ _ => zN); k_dflt (refine' forLaw (pw := none) (pe := none) (pd := none) (pp := none) ?yf1 ?yf2 ?yf3 zF zN ?yf4 ?yf5 ?yf6 ?ya1 ?yb1 ?ya2 ?yb2 ?ya3 ?yb3 ?ya4 ?yb4 ?ya5 ?yb5 ?ya6 ?yb6 ?_ ?_ ?_ ?yf7; (case yf1 => assumption); (case yf2 => rfl); (case yf3 => rfl); (case yf4 => with_unfolding_all exact rfl); (case ya1 => with_reducible (repeat (first | exact At.here | refine At.there ?_))); (case yb1 => (intros; with_reducible (repeat (first | exact St.here | apply St.there)))); (case ya2 => with_reducible (repeat (first | exact At.here | refine At.there ?_))); (case yb2 => (intros; with_reducible (repeat (first | exact St.here | apply St.there)))); (case ya3 => with_reducible (repeat (first | exact At.here | refine At.there ?_))); (case yb3 => (intros; with_reducible (repeat (first | exact St.here | apply St.there)))); (case ya4 => with_reducible (repeat (first | exact At.here | refine At.there ?_))); (case yb4 => (intros; with_reducible (repeat (first | exact St.here | apply St.there)))); (case ya5 => with_reducible (repeat (first | exact At.here | refine At.there ?_))); (case yb5 => (intros; with_reducible (repeat (first | exact St.here | apply St.there)))); (case ya6 => with_reducible (repeat (first | exact At.here | refine At.there ?_))); (case yb6 => (intros; with_reducible (repeat (first | exact St.here | apply St.there)))); (case yf5 => k_mem); (case yf6 => k_mem); (case yf7 => (intro _; with_unfolding_all rfl))); (all_goals (first | (clear zF zN; intro i k t c h tk own I oI hi hp hIo hSo hcd hDS FT NT; obtain ⟨n, tn, D, t1, t2, t3, cc, ys, zs, c2, pw, pe, pd, pp⟩ := c; dsimp only [PL, ledL, List.cons_append, List.nil_append] at hp hcd hDS FT NT; have hp1 := hp.1; (try dsimp only); (try k_fold)) | (clear zF zN; intro c h tk FT NT; obtain ⟨n, tn, D, t1, t2, t3, cc, ys, zs, c2, pw, pe, pd, pp⟩ := c; dsimp only [ledL, List.cons_append, List.nil_append] at FT NT; (try dsimp only); (try k_fold)) | (try k_fold))))
    k_with "turn end" => (k_dflt (refine' turnEnd (LS.mk _ _ _ _ _ _ _ _ _ _ _ _ _ _) (by assumption) ?ye1 ?ye2 ?ye3 ?ye4 ?ye5 ?ye6 ?ye7; (case ye1 => k_asm); (case ye2 => k_asm); (case ye3 => k_mem); (case ye4 => k_mem); (case ye5 => (intro p9 hp9; repeat (first | exact hp9 | refine List.Mem.tail _ ?_))); (case ye6 => first | exact pl_same (by assumption) | exact pl_step (by assumption)); (case ye7 => with_reducible first | assumption | exact ne_own (by assumption : AllLt _ _) (by assumption) | exact ne_own (by assumption : _ ∧ AllLt _ _).2 (by assumption) | exact ne_own (by assumption : _ ∧ _ ∧ AllLt _ _).2.2 (by assumption) | exact ne_own (by assumption : _ ∧ _ ∧ _ ∧ AllLt _ _).2.2.2 (by assumption) | exact ne_own (by assumption : _ ∧ _ ∧ _ ∧ _ ∧ AllLt _ _).2.2.2.2 (by assumption) | exact ne_own (by assumption : _ ∧ _ ∧ _ ∧ _ ∧ _ ∧ AllLt _ _).2.2.2.2.2 (by assumption) | exact ne_own (by assumption : _ ∧ _ ∧ _ ∧ _ ∧ _ ∧ _ ∧ AllLt _ _).2.2.2.2.2.2 (by assumption) | exact ne_own (by assumption : _ ∧ _ ∧ _ ∧ _ ∧ _ ∧ _ ∧ _ ∧ AllLt _ _).2.2.2.2.2.2.2 (by assumption) | exact ne_own (by assumption : _ ∧ _ ∧ _ ∧ _ ∧ _ ∧ _ ∧ _ ∧ _ ∧ AllLt _ _).2.2.2.2.2.2.2.2 (by assumption) | exact ne_own (by assumption : _ ∧ _ ∧ _ ∧ _ ∧ _ ∧ _ ∧ _ ∧ _ ∧ _ ∧ AllLt _ _).2.2.2.2.2.2.2.2.2 (by assumption) | exact ne_own (by assumption : _ ∧ _ ∧ _ ∧ _ ∧ _ ∧ _ ∧ _ ∧ _ ∧ _ ∧ _ ∧ AllLt _ _).2.2.2.2.2.2.2.2.2.2 (by assumption) | exact ne_own (by assumption : _ ∧ _ ∧ _ ∧ _ ∧ _ ∧ _ ∧ _ ∧ _ ∧ _ ∧ _ ∧ _ ∧ AllLt _ _).2.2.2.2.2.2.2.2.2.2.2 (by assumption) | exact ne_own (by assumption : _ ∧ _ ∧ _ ∧ _ ∧ _ ∧ _ ∧ _ ∧ _ ∧ _ ∧ _ ∧ _ ∧ _ ∧ AllLt _ _).2.2.2.2.2.2.2.2.2.2.2.2 (by assumption) | exact ne_own (by assumption : _ ∧ _ ∧ _ ∧ _ ∧ _ ∧ _ ∧ _ ∧ _ ∧ _ ∧ _ ∧ _ ∧ _ ∧ _ ∧ AllLt _ _).2.2.2.2.2.2.2.2.2.2.2.2.2 (by assumption) | exact ne_own (by assumption : _ ∧ _ ∧ _ ∧ _ ∧ _ ∧ _ ∧ _ ∧ _ ∧ _ ∧ _ ∧ _ ∧ _ ∧ _ ∧ _ ∧ AllLt _ _).2.2.2.2.2.2.2.2.2.2.2.2.2.2 (by assumption) | exact ne_own (by assumption : _ ∧ _ ∧ _ ∧ _ ∧ _ ∧ _ ∧ _ ∧ _ ∧ _ ∧ _ ∧ _ ∧ _ ∧ _ ∧ _ ∧ _ ∧ AllLt _ _).2.2.2.2.2.2.2.2.2.2.2.2.2.2.2 (by assumption) | exact ne_own (by assumption : _ ∧ _ ∧ _ ∧ _ ∧ _ ∧ _ ∧ _ ∧ _ ∧ _ ∧ _ ∧ _ ∧ _ ∧ _ ∧ _ ∧ _ ∧ _ ∧ AllLt _ _).2.2.2.2.2.2.2.2.2.2.2.2.2.2.2.2 (by assumption) | exact ne_own (by assumption : _ ∧ _ ∧ _ ∧ _ ∧ _ ∧ _ ∧ _ ∧ _ ∧ _ ∧ _ ∧ _ ∧ _ ∧ _ ∧ _ ∧ _ ∧ _ ∧ _ ∧ AllLt _ _).2.2.2.2.2.2.2.2.2.2.2.2.2.2.2.2.2 (by assumption))))
    k_with "len" => exact Nat.lt_of_lt_of_le (by decide) (len_one (by assumption))
    k_with "short" => (have := (by assumption : IntsAre _ _ ∧ _ ≤ _).2; omega)
    k_with "pre" => with_reducible first | exact civ_pre _ | exact ⟨ep_n (in12 _) (by assumption), by first | assumption | exact of_decide_eq_true (by assumption)⟩ | exact ⟨ep_i (by assumption) (by assumption), by first | assumption | exact of_decide_eq_true (by assumption)⟩ | exact ep_8 (ep_n (in12 _) (by assumption)) | exact ep_8 (ep_i (by assumption) (by assumption)) | exact ep_n (in12 _) (by assumption) | exact ep_i (by assumption) (by assumption) | exact ep_8 (ep_i (by assumption) (Int.le_trans (by assumption) (Int.le_of_lt (Int.lt_add_one_of_le (Int.le_refl _))))) | exact ep_i (by assumption) (Int.le_trans (by assumption) (Int.le_of_lt (Int.lt_add_one_of_le (Int.le_refl _)))) | exact rp_i (by assumption) (by assumption) (by assumption)
    k_dflt (refine' cutE "opening" (by assumption) FE NE ?zes ?zeb ?_)
    (case zes => (intro o t; with_reducible (repeat (first | exact St.here | apply St.there))))
    (case zeb =>
      intros
      k_steps)
    intro o t h tk FO NO
    (try k_fold)
    k_steps
    done)) only [↓wrap_true])

end

end
end Mine

theorem PySem.Challenge.cw_bn0013_01_holds : PySem.Challenge.rw_bn0013_01.Holds :=
  Mine.lawT
