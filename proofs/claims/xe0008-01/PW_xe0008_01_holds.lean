import PyProof.Rows.All
import Wide.All
import OpenK.AllK
import Wide.FinOn
import Lean
import PySem.Challenge.RW_xe0008_01
set_option Elab.async false
set_option maxRecDepth 100000
set_option maxHeartbeats 8000000
set_option linter.unusedVariables false

section
open PySem PySem.W PyProof.Rows
namespace Mine
open_top hd for PySem.Challenge.rw_xe0008_01
end Mine
end

section
open PySem PySem.W PyProof.Rows PySem.Calls
namespace Mine

/-- is the object a function's frame? -/
noncomputable abbrev IsFr (o : Obj) : Prop := o.cls = .type "frame"
/-- all is kept outside M; of the frames that are no part of base, the slots may turn -/
noncomputable def Hout (base : Heap) (M : List Addr) (h h' : Heap) : Prop := ∀ b o, b ∉ M → h.get? b = some o → h'.get? b = some o ∨ (IsFr o ∧ base.get? b = none ∧ ∃ sl, h'.get? b = some { o with slots := sl })
noncomputable abbrev Hext (base h h' : Heap) : Prop := Hout base [] h h'
/-- exactly kept, but for frames -/
noncomputable abbrev Kp (Z : List Addr) (h h' : Heap) : Prop := ∀ b o, b ∉ Z → ¬ IsFr o → h.get? b = some o → h'.get? b = some o

namespace Hout
variable {base h h' h'' : Heap} {M M' : List Addr} {a : Addr} {o : Obj}
theorem of (k : ∀ b o, b ∉ M → h.get? b = some o → h'.get? b = some o) : Hout base M h h' := fun b o hb e => .inl (k b o hb e)
theorem of' (k : ∀ b o, h.get? b = some o → h'.get? b = some o) : Hout base M h h' := fun b o _ e => .inl (k b o e)
theorem refl : Hout base M h h := fun b o _ e => .inl e
theorem ex (k : Hout base M h h') (ha : a ∉ M) (hc : ¬ IsFr o) (e : h.get? a = some o) : h'.get? a = some o := (k a o ha e).elim id fun q => absurd q.1 hc
theorem kp (k : Hout base M h h') : Kp M h h' := fun b o hb hc e => k.ex hb hc e
theorem al (k : Hout base M h h') (ha : a ∉ M) (e : ∃ o, h.get? a = some o) : ∃ o, h'.get? a = some o := let ⟨o, e⟩ := e; (k a o ha e).elim (fun q => ⟨o, q⟩) fun ⟨_, _, sl, q⟩ => ⟨_, q⟩
theorem up (k : Hout base M h h') (ha : a ∉ M) (e : h.get? a = some o) : ∃ o', h'.get? a = some o' ∧ o'.data = o.data ∧ o'.cls = o.cls ∧ o'.dict = o.dict := (k a o ha e).elim (fun q => ⟨o, q, rfl, rfl, rfl⟩) fun ⟨_, _, sl, q⟩ => ⟨_, q, rfl, rfl, rfl⟩
theorem ns {m : Str → Option Value} (k : Hout base M h h') (ha : a ∉ M) (n : h.Ns a m) : h'.Ns a m := by
  obtain ⟨o, es, ep, ho, hd, r⟩ := n
  obtain ⟨o', e1, e2, _⟩ := k.up ha ho
  exact ⟨o', es, ep, e1, e2.trans hd, r⟩
theorem cell {v : Option Value} (k : Hout base M h h') (ha : a ∉ M) (n : h.IsCell a v) : h'.IsCell a v := by
  obtain ⟨o, ho, hd⟩ := n
  obtain ⟨o', e1, e2, _⟩ := k.up ha ho
  exact ⟨o', e1, e2.trans hd⟩
theorem plain {its : Array Value} (k : Hout base M h h') (ha : a ∉ M) (p : h.PlainList a its) : h'.PlainList a its := (let ⟨n, e⟩ := p; ⟨n, k.ex ha (show ¬ Value.type "list" = Value.type "frame" by decide) e⟩)
theorem stays (k : Hout base M h h') (hM : ∀ a ∈ M, base.get? a = none) (e : base.StaysIn h) : base.StaysIn h' := fun b o q => by
  rcases k b o (fun m => by rw [hM b m] at q; cases q) (e b o q) with r | ⟨_, r, _⟩
  · exact r
  · rw [r] at q; cases q
theorem trans (a : Hout base M h h') (b : Hout base M' h' h'') (hm : ∀ x ∈ M', x ∈ M ∨ h.get? x = none) : Hout base M h h'' := fun c o hc e => by
  have hc' : c ∉ M' := fun m => (hm c m).elim hc fun q => by rw [e] at q; cases q
  rcases a c o hc e with q | ⟨q1, q2, sl, q3⟩
  · exact b c o hc' q
  · rcases b c _ hc' q3 with r | ⟨_, _, sl', r⟩
    · exact .inr ⟨q1, q2, sl, r⟩
    · exact .inr ⟨q1, q2, sl', r⟩
theorem less (a : Hout base M h h') (hm : ∀ x ∈ M, x ∈ M') : Hout base M' h h' := fun c o hc e => a c o (fun m => hc (hm c m)) e
theorem less' (a : Hout base M h h') (hm : ∀ x ∈ M, x ∈ M' ∨ h.get? x = none) : Hout base M' h h' := fun c o hc e => a c o (fun m => (hm c m).elim hc fun q => by rw [e] at q; cases q) e
theorem none_of (k : Hout base M h h') (ha : a ∉ M) (e : h'.get? a = none) : h.get? a = none := by
  cases q : h.get? a with
  | none => rfl
  | some o => obtain ⟨o', r⟩ := k.al ha ⟨o, q⟩; rw [e] at r; cases r
end Hout
theorem hext_trans {base h h' h'' : Heap} (a : Hext base h h') (b : Hext base h' h'') : Hext base h h'' := a.trans b fun _ m => nomatch m

theorem plain_L {h : Heap} {a : Addr} {its : Array Value} (p : h.PlainList a its) : PlainL h a its := let ⟨n, q⟩ := p; ⟨_, n, q, rfl, rfl, rfl⟩
theorem plainL_at {h h' : Heap} {a : Addr} {its : Array Value} (p : PlainL h a its) (k : ∀ o, ¬ IsFr o → h.get? a = some o → h'.get? a = some o) : PlainL h' a its := let ⟨o, n, e, hc, r⟩ := p; ⟨o, n, k o (fun q => absurd (hc.symm.trans q) (by decide)) e, hc, r⟩
/-! data in a heap; Z: addresses that the data do not touch -/
mutual
inductive Rep (Z : List Addr) (h : Heap) : Value → PyData → Prop
  | none : Rep Z h Value.none PyData.none
  | bool (b : Bool) : Rep Z h (Value.bool b) (PyData.bool b)
  | int (i : Int) (t : Tok) : Rep Z h (Value.int i t) (PyData.int i)
  | str (x : Str) (t : Tok) : Rep Z h (Value.str x t) (PyData.str x)
  | tuple {a : Addr} {vs : List Value} {ds : List PyData} : a ∉ Z → IsTup h a vs.toArray → RepAll Z h vs ds → Rep Z h (Value.ref a) (PyData.tuple ds)
  | list {a : Addr} {vs : List Value} {ds : List PyData} : a ∉ Z → PlainL h a vs.toArray → RepAll Z h vs ds → Rep Z h (Value.ref a) (PyData.list ds)
inductive RepAll (Z : List Addr) (h : Heap) : List Value → List PyData → Prop
  | nil : RepAll Z h [] []
  | cons {v : Value} {vs : List Value} {d : PyData} {ds : List PyData} : Rep Z h v d → RepAll Z h vs ds → RepAll Z h (v :: vs) (d :: ds)
end

section
variable {Z Z' : List Addr} {h h' : Heap} (hz : ∀ b o, h.get? b = some o → b ∉ Z → b ∉ Z') (hk : Kp Z h h')
include hz hk
theorem tup_mono {a : Addr} {vs : Array Value} (ha : a ∉ Z) (ht : IsTup h a vs) : a ∉ Z' ∧ IsTup h' a vs := by
  obtain ⟨o, ho, hc, hd⟩ := ht
  exact ⟨hz _ _ ho ha, o, hk _ _ ha (fun q => absurd (hc.symm.trans q) (by decide)) ho, hc, hd⟩
theorem list_mono {a : Addr} {vs : Array Value} (ha : a ∉ Z) (ht : PlainL h a vs) : a ∉ Z' ∧ PlainL h' a vs := by
  obtain ⟨o, n, ho, hc, hd⟩ := ht
  exact ⟨hz _ _ ho ha, o, n, hk _ _ ha (fun q => absurd (hc.symm.trans q) (by decide)) ho, hc, hd⟩
theorem Rep.mono {v : Value} {d : PyData} (r : Rep Z h v d) : Rep Z' h' v d :=
  Rep.rec (motive_1 := fun v d _ => Rep Z' h' v d) (motive_2 := fun vs ds _ => RepAll Z' h' vs ds) .none .bool .int .str
    (fun ha ht _ ih => let q := tup_mono hz hk ha ht; .tuple q.1 q.2 ih) (fun ha ht _ ih => let q := list_mono hz hk ha ht; .list q.1 q.2 ih) .nil (fun _ _ i1 i2 => .cons i1 i2) r
theorem RepAll.mono {vs : List Value} {ds : List PyData} (r : RepAll Z h vs ds) : RepAll Z' h' vs ds := by
  induction vs generalizing ds with
  | nil => cases r; exact .nil
  | cons v vs ih => cases r with | cons h1 h2 => exact .cons (Rep.mono hz hk h1) (ih h2)
end

section
variable {Z Z' : List Addr} {h h' : Heap} {v : Value} {d : PyData} {vs ws : List Value} {ds es : List PyData}
theorem Rep.keeps {base : Heap} (r : Rep Z h v d) (k : Hext base h h') : Rep Z h' v d := r.mono (fun _ _ _ q => q) fun b o _ hc e => k.ex (fun m => nomatch m) hc e
theorem RepAll.keeps {base : Heap} (r : RepAll Z h vs ds) (k : Hext base h h') : RepAll Z h' vs ds := r.mono (fun _ _ _ q => q) fun b o _ hc e => k.ex (fun m => nomatch m) hc e
theorem Rep.less (r : Rep Z h v d) (k : ∀ b ∈ Z', b ∈ Z) : Rep Z' h v d := r.mono (fun _ _ _ q m => q (k _ m)) fun _ _ _ _ e => e
theorem RepAll.less (r : RepAll Z h vs ds) (k : ∀ b ∈ Z', b ∈ Z) : RepAll Z' h vs ds := r.mono (fun _ _ _ q m => q (k _ m)) fun _ _ _ _ e => e
theorem Rep.weak (r : Rep Z h v d) : Rep [] h v d := r.less fun _ m => nomatch m
theorem RepAll.weak (r : RepAll Z h vs ds) : RepAll [] h vs ds := r.less fun _ m => nomatch m
theorem RepAll.length (r : RepAll Z h vs ds) : vs.length = ds.length := by
  induction vs generalizing ds with
  | nil => cases r; rfl
  | cons v vs ih => cases r with | cons h1 h2 => simp [ih h2]
theorem RepAll.append (r : RepAll Z h vs ds) (q : RepAll Z h ws es) : RepAll Z h (vs ++ ws) (ds ++ es) := by
  induction vs generalizing ds with
  | nil => cases r; exact q
  | cons v vs ih => cases r with | cons h1 h2 => exact .cons h1 (ih h2)
theorem RepAll.get (r : RepAll Z h vs ds) {k : Nat} {d : PyData} (hk : ds[k]? = some d) : ∃ v, vs[k]? = some v ∧ Rep Z h v d := by
  induction vs generalizing ds k with
  | nil => cases r; simp at hk
  | cons v vs ih =>
    cases r with
    | cons h1 h2 =>
      cases k with
      | zero => simp at hk; subst hk; exact ⟨v, rfl, h1⟩
      | succ k => simp at hk; simpa using ih h2 hk
theorem RepAll.get' (r : RepAll Z h vs ds) {k : Nat} {v : Value} (hk : vs[k]? = some v) : ∃ d, ds[k]? = some d ∧ Rep Z h v d := by
  induction vs generalizing ds k with
  | nil => simp at hk
  | cons w vs ih =>
    cases r with
    | cons h1 h2 =>
      cases k with
      | zero => simp at hk; subst hk; exact ⟨_, rfl, h1⟩
      | succ k => simp at hk; simpa using ih h2 hk
theorem RepAll.set (r : RepAll Z h vs ds) {k : Nat} (hv : Rep Z h v d) : RepAll Z h (vs.set k v) (ds.set k d) := by
  induction vs generalizing ds k with
  | nil => cases r; exact .nil
  | cons w vs ih =>
    cases r with
    | cons h1 h2 =>
      cases k with
      | zero => exact .cons hv h2
      | succ k => exact .cons h1 (ih h2)
theorem RepAll.one (r : Rep Z h v d) : RepAll Z h [v] [d] := .cons r .nil
end

/-- a datum that lies in no object -/
noncomputable def Flat : PyData → Prop
  | .none | .bool _ | .int _ | .str _ => True
  | _ => False
theorem Rep.flat {Z Z' : List Addr} {h h' : Heap} {v : Value} {d : PyData} (r : Rep Z h v d) (f : Flat d) : Rep Z' h' v d := by
  cases r with
  | none => exact .none
  | bool b => exact .bool b
  | int i t => exact .int i t
  | str x t => exact .str x t
  | tuple => exact f.elim
  | list => exact f.elim
theorem RepAll.flat {Z Z' : List Addr} {h h' : Heap} {vs : List Value} {ds : List PyData} (r : RepAll Z h vs ds) (f : ∀ d ∈ ds, Flat d) : RepAll Z' h' vs ds := by
  induction vs generalizing ds with
  | nil => cases r; exact .nil
  | cons v vs ih => cases r with | cons h1 h2 => exact .cons (h1.flat (f _ (.head _))) (ih h2 fun d hd => f d (.tail _ hd))

mutual
theorem Rep.reads {Z : List Addr} {h : Heap} : ∀ {v : Value} {d : PyData}, Rep Z h v d → ∃ as, Reads h v d as
  | _, _, .none => ⟨_, .none⟩
  | _, _, .bool b => ⟨_, .bool b⟩
  | _, _, .int i t => ⟨_, .int i t⟩
  | _, _, .str x t => ⟨_, .str x t⟩
  | _, _, .tuple _ ht hr => by
    obtain ⟨o, ho, hc, n, hd⟩ := ht
    obtain ⟨as, q⟩ := RepAll.reads hr
    exact ⟨_, .tuple ho hc hd q⟩
  | _, _, .list _ ht hr => by
    obtain ⟨o, n, ho, hc, _, hd⟩ := ht
    obtain ⟨as, q⟩ := RepAll.reads hr
    exact ⟨_, .list ho hc hd q⟩
theorem RepAll.reads {Z : List Addr} {h : Heap} : ∀ {vs : List Value} {ds : List PyData}, RepAll Z h vs ds → ∃ as, ReadsAll h vs ds as
  | _, _, .nil => ⟨_, .nil⟩
  | _, _, .cons h1 h2 => by
    obtain ⟨as, p⟩ := Rep.reads h1
    obtain ⟨bs, q⟩ := RepAll.reads h2
    exact ⟨_, .cons p q⟩
end

/-! what a name is bound to -/
/-- what is known of an object that is no datum -/
structure ObP where
  P : List Addr → Heap → Value → Prop
  mono : ∀ {Z Z' : List Addr} {h h' : Heap} {v : Value}, (∀ b o, h.get? b = some o → b ∉ Z → b ∉ Z') → Kp Z h h' → P Z h v → P Z' h' v
inductive Bnd where
  | ob (P : ObP)
  | fz (d : PyData)
  | own (ds : List PyData)
  | mat (rows : List (List PyData))
  | lex (C : Addr) (ds : List PyData)

noncomputable def RowsAre (Z : List Addr) (h : Heap) : List Addr → List (List PyData) → Prop
  | [], [] => True
  | a :: as, r :: rs => (∃ vs : List Value, h.PlainList a vs.toArray ∧ RepAll Z h vs r) ∧ RowsAre Z h as rs
  | _, _ => False

/-- the dict of a _netrclex -/
noncomputable def LexD (es : List DictEntry) (p : Addr) : Prop := getL "pushback" es = some (some (.ref p)) ∧ getL "push_token" es = some none ∧ getL "get_token" es = some none
noncomputable def BndOk (Z : List Addr) (h : Heap) (ft : List Addr) (v : Value) : Bnd → Prop
  | .fz d => ft = [] ∧ Rep Z h v d
  | .ob P => ft = [] ∧ P.P Z h v
  | .own ds => ∃ a, ∃ vs : List Value, v = .ref a ∧ ft = [a] ∧ h.PlainList a vs.toArray ∧ RepAll Z h vs ds
  | .mat rows => ∃ a as, v = .ref a ∧ ft = a :: as ∧ ft.Nodup ∧ h.PlainList a (as.map Value.ref).toArray ∧ RowsAre Z h as rows
  | .lex C ds => ∃ x ox dx es n p, ∃ vs : List Value, v = .ref x ∧ ft = [p] ∧ x ∉ Z ∧ dx ∉ Z ∧ InstAt h x ox C (some (dictOf es n)) ∧ ox.dict = some dx ∧ LexD es p ∧
      h.PlainList p vs.toArray ∧ RepAll Z h vs ds

theorem plain_at {h h' : Heap} {a : Addr} {its : Array Value} (p : h.PlainList a its) (k : ∀ o, ¬ IsFr o → h.get? a = some o → h'.get? a = some o) : h'.PlainList a its := let ⟨n, e⟩ := p; ⟨n, k _ (show ¬ Value.type "list" = Value.type "frame" by decide) e⟩
theorem RowsAre.mono {Z Z' : List Addr} {h h' : Heap} (hz : ∀ b o, h.get? b = some o → b ∉ Z → b ∉ Z') (hk : Kp Z h h') :
    ∀ {as : List Addr} {rs : List (List PyData)}, (∀ a ∈ as, ∀ o, ¬ IsFr o → h.get? a = some o → h'.get? a = some o) → RowsAre Z h as rs → RowsAre Z' h' as rs
  | [], [], _, _ => trivial
  | a :: as, r :: rs, hf, ⟨⟨vs, h1, h2⟩, h3⟩ => ⟨⟨vs, plain_at h1 fun o hc e => hf a (.head _) o hc e, h2.mono hz hk⟩, RowsAre.mono hz hk (fun b hb => hf b (.tail _ hb)) h3⟩
  | [], _ :: _, _, h => h.elim
  | _ :: _, [], _, h => h.elim

theorem InstAt.at' {h h' : Heap} {x : Addr} {ox : Obj} {C : Addr} {od : Obj} {dx : Addr} (I : InstAt h x ox C (some od)) (hd : ox.dict = some dx) (kx : ∀ o, ¬ IsFr o → h.get? x = some o → h'.get? x = some o) (kd : ∀ o, ¬ IsFr o → h.get? dx = some o → h'.get? dx = some o) (hod : ¬ IsFr od) :
    InstAt h' x ox C (some od) := by
  obtain ⟨h1, h2, h3, h4⟩ := I
  refine ⟨kx _ (fun q => by rw [IsFr, h2] at q; cases q) h1, h2, h3, ?_⟩
  rw [hd] at h4 ⊢
  exact kd _ hod h4

theorem BndOk.mono {Z Z' : List Addr} {h h' : Heap} {ft : List Addr} {v : Value} (hz : ∀ b o, h.get? b = some o → b ∉ Z → b ∉ Z') (hk : Kp Z h h')
    (hf : ∀ a ∈ ft, ∀ o, ¬ IsFr o → h.get? a = some o → h'.get? a = some o) {b : Bnd} (q : BndOk Z h ft v b) : BndOk Z' h' ft v b := by
  cases b with
  | fz d => exact ⟨q.1, q.2.mono hz hk⟩
  | ob P => exact ⟨q.1, P.mono hz hk q.2⟩
  | own ds =>
    obtain ⟨a, vs, e1, e2, e3, e4⟩ := q
    exact ⟨a, vs, e1, e2, plain_at e3 fun o hc e => hf a (e2 ▸ .head _) o hc e, e4.mono hz hk⟩
  | mat rows =>
    obtain ⟨a, as, e1, e2, e3, e4, e5⟩ := q
    exact ⟨a, as, e1, e2, e3, plain_at e4 fun o hc e => hf a (e2 ▸ .head _) o hc e, e5.mono hz hk fun b hb => hf b (e2 ▸ .tail _ hb)⟩
  | lex C ds =>
    obtain ⟨x, ox, dx, es, n, p, vs, e1, e2, e3, e4, e5, e6, e7, e8, e9⟩ := q
    have hx := e5.at_
    have hdx : h.get? dx = some (dictOf es n) := by have := e5.dict; rw [e6] at this; exact this
    exact ⟨x, ox, dx, es, n, p, vs, e1, e2, hz _ _ hx e3, hz _ _ hdx e4, InstAt.at' e5 e6 (fun o hc e => hk _ o e3 hc e) (fun o hc e => hk _ o e4 hc e) (show ¬ (dictOf es n).cls = Value.type "frame" by unfold dictOf; simp), e6, e7, plain_at e8 fun o hc e => hf p (e2 ▸ .head _) o hc e, e9.mono hz hk⟩

/-- objects that hold no fields stay so, and keep their class -/
noncomputable abbrev FrOk (h h' : Heap) : Prop := ∀ b o, h.get? b = some o → (∀ vs, o.data ≠ .fields vs) → ∃ o', h'.get? b = some o' ∧ (∀ vs, o'.data ≠ .fields vs) ∧ o'.cls = o.cls
theorem FrOk.trans {h h' h'' : Heap} (a : FrOk h h') (b : FrOk h' h'') : FrOk h h'' := fun c o e q => let ⟨o', e', q', c1⟩ := a c o e q; let ⟨o'', e'', q'', c2⟩ := b c o' e' q'; ⟨o'', e'', q'', c2.trans c1⟩
/-! stores: the class stays -/
theorem nsSet_c {M : Model} {A : Around} {E : Value → Shared → Prop} {s : Shared} {a : Addr} {m : Str → Option Value} {name : Str} {v : Value} {Q : Unit → Shared → Prop} (hn : s.heap.Ns a m)
    (h : ∀ h', h'.Ns a (fun x => if x = name then some v else m x) → Heap.SameBut a s.heap h' → (∀ o, s.heap.get? a = some o → ∃ o', h'.get? a = some o' ∧ o'.cls = o.cls) → Q () { s with heap := h', toks := s.toks + 1 }) :
    wpAny M A (nsSet a name v) Q E s := fun Γ p hΓ => by
  have h0 := Sem.wp_nsSet M Γ (fun e _ s => E e s) p s hn name v (fun _ _ s' => s'.heap.Ns a (fun x => if x = name then some v else m x) ∧ Heap.SameBut a s.heap s'.heap) fun h' x y => ⟨x, y⟩
  obtain ⟨o, es, ep, ho, hd, hk, hm⟩ := hn
  have hany : es.any (·.refKey) = false := by
    rw [Array.any_eq_false']; intro e he; obtain ⟨n, t, h⟩ := hk e he; simp [DictEntry.refKey, h]
  simp only [nsSet, strHash, Sem.wp_bind', Sem.wp_cmd_ask, Sem.wp_pure', Sem.wp_cmd_mkText] at h0 ⊢
  rw [Sem.wp_loadPart_of M Γ (fun e _ s => E e s) p { s with toks := s.toks + 1 } (o := o) _ ho] at h0 ⊢
  simp only [hd, aRefKeyMayBeTheName_eq, aRefKeyMayBeTheNameByArray, hany, Bool.and_false, Bool.false_eq_true, if_false, Sem.wp_cmd_updatePart] at h0 ⊢
  refine ⟨h0.1, h _ h0.2.1 h0.2.2 fun o' ho' => ?_⟩
  rw [ho] at ho'; cases ho'
  refine ⟨_, Heap.get?_update_self _ ho ?_, ?_⟩
  · obtain ⟨c, d, dt, sl⟩ := o
    subst hd
    simp only [Obj.putName_eq, Obj.putNameByArray]
    split <;> rfl
  · obtain ⟨c, d, dt, sl⟩ := o
    subst hd
    simp only [Obj.putName_eq, Obj.putNameByArray]
    split <;> rfl
theorem storeLocal_c {M : Model} {A : Around} {E : Value → Shared → Prop} {s : Shared} {env : Env} {name : Str} {m : Str → Option Value} {v : Value} {Q : Unit → Shared → Prop} (hl : env.kindOf name = some .local) (hn : s.heap.Ns env.locals m)
    (h : ∀ h', h'.Ns env.locals (fun x => if x = name then some v else m x) → Heap.SameBut env.locals s.heap h' → (∀ o, s.heap.get? env.locals = some o → ∃ o', h'.get? env.locals = some o' ∧ o'.cls = o.cls) → Q () { s with heap := h', toks := s.toks + 1 })
    (hp : (env.scope.kind == .class || (env.scope.kind == .module && env.locals != env.globals)) = false := by rfl) : wpAny M A (storeName env name v) Q E s := by
  rw [storeName_local hl hp]; exact nsSet_c hn h
theorem storeCell_c {M : Model} {A : Around} {E : Value → Shared → Prop} {s : Shared} {env : Env} {name : Str} {c : Addr} {v₀ : Option Value} {v : Value} {Q : Unit → Shared → Prop} (hk : env.scope.kind = .function) (hl : env.kindOf name = some .cell)
    (hc : env.cells.lookup name = some c) (hv : s.heap.IsCell c v₀)
    (h : ∀ h', h'.IsCell c (some v) → Heap.SameBut c s.heap h' → (∀ o, s.heap.get? c = some o → ∃ o', h'.get? c = some o' ∧ o'.cls = o.cls) → Q () { s with heap := h' }) : wpAny M A (storeName env name v) Q E s := by
  unfold storeName
  simp only [hl, hk]
  refine wpAny_bind (wpAny_cellOf hc ?_)
  obtain ⟨o, ho, hd⟩ := hv
  unfold cellSet
  refine wpAny_bind (wpAny_load ho ?_)
  rw [hd]
  exact wpAny_update ho (h _ ⟨{ o with data := .cell (some v) }, Heap.get?_update_self _ ho rfl, rfl⟩ (Heap.SameBut.update ..) fun o' ho' => by
    rw [ho] at ho'; cases ho'
    exact ⟨_, Heap.get?_update_self _ ho rfl, rfl⟩)

/-! frames -/
noncomputable def VarAt (h : Heap) (env : Env) (x : Str) (v : Value) : Prop :=
  (env.kindOf x = some .local ∧ ∃ m, h.Ns env.locals m ∧ m x = some v) ∨
  ((env.kindOf x = some .cell ∨ (env.kindOf x = some .free ∧ (x == ("__classdict__" : Str)) = false)) ∧ ∃ c, env.cells.lookup x = some c ∧ h.IsCell c (some v))

structure Fw (env : Env) (h : Heap) : Prop where
  kind : env.scope.kind = .function
  glob : env.globals = mainGlobals
  blt : env.builtins = builtinsNs
  ns : ∃ m, h.Ns env.locals m
  cells : ∀ n c, (n, c) ∈ env.cells → ∃ v, h.IsCell c v
  apart : env.cells.Pairwise fun x y => x.2 ≠ y.2
  off : ∀ n c, (n, c) ∈ env.cells → c ≠ env.locals
  has : ∀ n, env.kindOf n = some .cell ∨ env.kindOf n = some .free → ∃ c, env.cells.lookup n = some c

theorem VarAt.keeps {base h h' : Heap} {env : Env} {x : Str} {v : Value} (V : VarAt h env x v) (k : Hext base h h') : VarAt h' env x v := by
  rcases V with ⟨h1, m, h2, h3⟩ | ⟨h1, c, h2, h3⟩
  · exact .inl ⟨h1, m, k.ns (fun m => nomatch m) h2, h3⟩
  · exact .inr ⟨h1, c, h2, k.cell (fun m => nomatch m) h3⟩
theorem Fw.keeps {base h h' : Heap} {env : Env} (F : Fw env h) (k : Hext base h h') : Fw env h' :=
  ⟨F.kind, F.glob, F.blt, let ⟨m, e⟩ := F.ns; ⟨m, k.ns (fun m => nomatch m) e⟩, fun n c hm => let ⟨v, e⟩ := F.cells n c hm; ⟨v, k.cell (fun m => nomatch m) e⟩, F.apart, F.off, F.has⟩

section
variable {M : Model} {A : Around} {E : Value → Shared → Prop} {s : Shared} {env : Env} {x : Str} {v : Value}
theorem VarAt.load {Q : Value → Shared → Prop} (V : VarAt s.heap env x v) (hk : env.scope.kind = .function) (h : Q v s) : wpAny M A (loadName env x) Q E s := by
  rcases V with ⟨h1, m, h2, h3⟩ | ⟨h1 | ⟨h1, h1'⟩, c, h2, h3⟩
  · exact wpAny_loadName_local hk h1 h2 h3 h
  · exact wpAny_loadName_cell hk h1 h2 h3 h
  · exact wpAny_loadName_free hk h1 h2 h3 h h1'

/-- the addresses of a frame -/
noncomputable def frameAddrs (env : Env) : List Addr := env.locals :: env.cells.map (·.2)
/-- where a name's value is kept -/
noncomputable def slotOf (env : Env) (x : Str) : Addr := match env.kindOf x with
  | some .cell => (env.cells.lookup x).getD env.locals
  | _ => env.locals
noncomputable def Storable (env : Env) (x : Str) : Prop := env.kindOf x = some .local ∨ (env.kindOf x = some .cell ∧ ∃ c, env.cells.lookup x = some c)
theorem slot_mem {env : Env} {x : Str} (h : Storable env x) : slotOf env x ∈ frameAddrs env := by
  rcases h with h | ⟨h, c, hc⟩
  · unfold slotOf; rw [h]; exact .head _
  · unfold slotOf; rw [h, hc]; exact .tail _ (List.mem_map.mpr ⟨_, mem_of_lookup hc, rfl⟩)

theorem store_var {Q : Unit → Shared → Prop} (F : Fw env s.heap) (hx : Storable env x)
    (h : ∀ h' tk, Fw env h' → VarAt h' env x v → (∀ y u, y ≠ x → VarAt s.heap env y u → VarAt h' env y u) → (∀ b o, b ≠ slotOf env x → s.heap.get? b = some o → h'.get? b = some o) →
      (∀ b, (s.heap.get? b).isSome = true → (h'.get? b).isSome = true) → h'.objs.size = s.heap.objs.size →
      FrOk s.heap h' → Q () { s with heap := h', toks := tk }) :
    wpAny M A (storeName env x v) Q E s := by
  rcases hx with hl | ⟨hc, c, hlk⟩
  · obtain ⟨m, hm⟩ := F.ns
    refine storeLocal_c hl hm (fun h' hn hs hcls => h h' _ ?_ ?_ ?_ ?_ ?_ hs.1 ?_) (by rw [F.kind]; rfl)
    · exact ⟨F.kind, F.glob, F.blt, ⟨_, hn⟩, fun n c hmem => let ⟨u, e⟩ := F.cells n c hmem; ⟨u, e.sameBut hs (F.off n c hmem)⟩, F.apart, F.off, F.has⟩
    · exact .inl ⟨hl, _, hn, by simp⟩
    · intro y u hy V
      rcases V with ⟨h1, m', h2, h3⟩ | ⟨h1, c', h2, h3⟩
      · refine .inl ⟨h1, _, hn, ?_⟩
        rw [if_neg hy]
        obtain ⟨o, es, ep, ho, hd, _, hf⟩ := hm
        obtain ⟨o', es', ep', ho', hd', _, hf'⟩ := h2
        rw [ho] at ho'; cases ho'; rw [hd] at hd'; cases hd'
        rw [← hf y, hf' y]; exact h3
      · exact .inr ⟨h1, c', h2, h3.sameBut hs (F.off y c' (mem_of_lookup h2))⟩
    · intro b o hb e
      exact hs.extBut b o (fun q => hb (by unfold slotOf; rw [hl]; exact q)) e
    · intro b hb
      by_cases q : b = env.locals
      · subst q; obtain ⟨o, _, _, ho, _⟩ := hn; rw [ho]; rfl
      · rw [hs.2 b q]; exact hb
    · intro b o ho hne
      by_cases q : b = env.locals
      · subst q; obtain ⟨o', _, _, ho', hd', _⟩ := hn; obtain ⟨o'', ho'', hcl⟩ := hcls o ho; rw [ho'] at ho''; cases ho''; exact ⟨o', ho', fun vs q => (by rw [hd'] at q; cases q), hcl⟩
      · exact ⟨o, (hs.2 b q).trans ho, hne, rfl⟩
  · obtain ⟨u₀, hu₀⟩ := F.cells x c (mem_of_lookup hlk)
    have hcl := F.off x c (mem_of_lookup hlk)
    refine storeCell_c F.kind hc hlk hu₀ (fun h' hn hs hcls => ?_)
    refine h h' s.toks ?_ ?_ ?_ ?_ ?_ hs.1 ?_
    · obtain ⟨m, hm⟩ := F.ns
      refine ⟨F.kind, F.glob, F.blt, ⟨m, hm.sameBut hs (Ne.symm hcl)⟩, fun n c' hmem => ?_, F.apart, F.off, F.has⟩
      by_cases q : c' = c
      · subst q; exact ⟨_, hn⟩
      · obtain ⟨u, e⟩ := F.cells n c' hmem; exact ⟨u, e.sameBut hs q⟩
    · exact .inr ⟨.inl hc, c, hlk, hn⟩
    · intro y u hy V
      rcases V with ⟨h1, m', h2, h3⟩ | ⟨h1, c', h2, h3⟩
      · exact .inl ⟨h1, m', h2.sameBut hs (Ne.symm hcl), h3⟩
      · refine .inr ⟨h1, c', h2, h3.sameBut hs fun q => hy ?_⟩
        subst q
        exact name_of_addr F.apart (mem_of_lookup h2) (mem_of_lookup hlk)
    · intro b o hb e
      exact hs.extBut b o (fun q => hb (by unfold slotOf; rw [hc, hlk]; exact q)) e
    · intro b hb
      by_cases q : b = c
      · subst q; obtain ⟨o, ho, _⟩ := hn; rw [ho]; rfl
      · rw [hs.2 b q]; exact hb
    · intro b o ho hne
      by_cases q : b = c
      · subst q; obtain ⟨o', ho', hd'⟩ := hn; obtain ⟨o'', ho'', hcl⟩ := hcls o ho; rw [ho'] at ho''; cases ho''; exact ⟨o', ho', fun vs q => (by rw [hd'] at q; cases q), hcl⟩
      · exact ⟨o, (hs.2 b q).trans ho, hne, rfl⟩
end

/-! the view that an expression has -/
structure Nm (Z : List Addr) (env : Env) (ρ : List (Str × Bnd)) (h : Heap) : Prop where
  fw : Fw env h
  frameZ : ∀ a ∈ frameAddrs env, a ∈ Z
  var : ∀ x b, ρ.lookup x = some b → ∃ v ft, VarAt h env x v ∧ BndOk Z h ft v b ∧ ∀ a ∈ ft, a ∈ Z
  alive : ∀ a ∈ Z, ∃ o, h.get? a = some o

theorem Nm.keeps {base : Heap} {Z : List Addr} {env : Env} {ρ : List (Str × Bnd)} {h h' : Heap} (N : Nm Z env ρ h) (k : Hext base h h') : Nm Z env ρ h' :=
  ⟨N.fw.keeps k, N.frameZ, fun x b e => let ⟨v, ft, h1, h2, h3⟩ := N.var x b e; ⟨v, ft, h1.keeps k, h2.mono (fun _ _ _ q => q) (fun b o _ hc e => k.ex (fun m => nomatch m) hc e) (fun a _ o hc e => k.ex (fun m => nomatch m) hc e), h3⟩,
    fun a ha => k.al (fun m => nomatch m) (N.alive a ha)⟩

/-- what is known of the world and of the stack -/
structure Base (K : Frag) (base : Heap) : Prop where
  inK : K.In base
  bn : ∃ mb, base.Ns builtinsNs mb ∧ ∀ x : Str, x ≠ "__name__" → mb x = bootBuiltins x
  nolim : base.NoLimit

structure Wd (K : Frag) (base : Heap) (d : Nat) (A : Around) (h : Heap) : Prop where
  b : Base K base
  stays : base.StaysIn h
  handled : A.handled = none
  depth : A.depth ≤ d
  units : A.units ≤ 10 * d
  small : d ≤ 500
  fr : ∃ l, A.frames = some l ∧ h.FunFrames base l ∧ ∀ a ∈ l.filterMap (·.frame), ∃ o, h.get? a = some o ∧ IsFr o

theorem Wd.keeps {K : Frag} {base : Heap} {d : Nat} {A : Around} {h h' : Heap} (W : Wd K base d A h) (k : Hext base h h') : Wd K base d A h' :=
  ⟨W.b, k.stays (fun _ m => nomatch m) W.stays, W.handled, W.depth, W.units, W.small, let ⟨l, e, f, g⟩ := W.fr; ⟨l, e, f.of_keeps fun b o ho _ => let ⟨o', q1, q2, _⟩ := k.up (fun m => nomatch m) ho; ⟨o', q1, q2⟩, fun a ha => let ⟨o, e, c⟩ := g a ha; let ⟨o', q1, _, q3, _⟩ := k.up (fun m => nomatch m) e; ⟨o', q1, q3.trans c⟩⟩⟩
theorem Wd.K {K : Frag} {base : Heap} {d : Nat} {A : Around} {h : Heap} (W : Wd K base d A h) : K.In h := W.b.inK.keeps W.stays
theorem Wd.nolim {K : Frag} {base : Heap} {d : Nat} {A : Around} {h : Heap} (W : Wd K base d A h) : h.NoLimit := W.b.nolim.keeps W.stays
theorem Wd.room {K : Frag} {base : Heap} {d : Nat} {A : Around} {h : Heap} (W : Wd K base d A h) : A.depth < recursionLimit := by
  have := W.depth; have := W.small; show A.depth < 1000; omega
/-- the run keeps what stands -/
noncomputable def Keep (base : Heap) (s s' : Shared) : Prop := ∃ h' tk, s' = { s with heap := h', toks := tk } ∧ Hext base s.heap h'
theorem keeps_refl {base : Heap} (s : Shared) : Keep base s s := ⟨_, _, rfl, .refl⟩
theorem keeps_trans {base : Heap} {s s' s'' : Shared} (a : Keep base s s') (b : Keep base s' s'') : Keep base s s'' := by
  obtain ⟨h1, t1, rfl, k1⟩ := a
  obtain ⟨h2, t2, rfl, k2⟩ := b
  exact ⟨h2, t2, rfl, hext_trans k1 k2⟩
theorem kext {base : Heap} {s s' : Shared} (a : Keep base s s') : Hext base s.heap s'.heap := by obtain ⟨h, t, rfl, k⟩ := a; exact k
theorem keeps_tok {base : Heap} (s : Shared) (t : Nat) : Keep base s { s with toks := t } := ⟨_, _, rfl, .refl⟩
theorem keeps_heap {base : Heap} (s : Shared) (h : Heap) (t : Nat) (k : ∀ b o, s.heap.get? b = some o → h.get? b = some o) : Keep base s { s with heap := h, toks := t } := ⟨_, _, rfl, .of' k⟩
theorem keeps_ext {base : Heap} (s : Shared) (h : Heap) (t : Nat) (k : Hext base s.heap h) : Keep base s { s with heap := h, toks := t } := ⟨_, _, rfl, k⟩

/-- an expression's value: F of (Z, the heap ahead, the heap behind, the value) -/
noncomputable def Ev (prog : Program) (w : World) (K : Frag) (base : Heap) (d : Nat) (env : Env) (ρ : List (Str × Bnd)) (e : Expr) (F : List Addr → Heap → Heap → Value → Prop) : Prop :=
  ∀ A Z s E, Wd K base d A s.heap → Nm Z env ρ s.heap → wpAny (model prog w) A (eval e env) (fun v s' => F Z s.heap s'.heap v ∧ Keep base s s') E s

noncomputable abbrev IsS (d : PyData) : List Addr → Heap → Heap → Value → Prop := fun Z _ h v => Rep Z h v d
noncomputable abbrev IsW (d : PyData) : List Addr → Heap → Heap → Value → Prop := fun _ _ h v => Rep [] h v d
noncomputable abbrev IsNew (ds : List PyData) : List Addr → Heap → Heap → Value → Prop := fun Z h₀ h v => ∃ a, ∃ vs : List Value, v = .ref a ∧ h₀.get? a = none ∧ h.PlainList a vs.toArray ∧ RepAll Z h vs ds

end Mine
end

section
open PySem PySem.W PyProof.Rows PySem.Calls
namespace Mine

noncomputable def HasL (Z : List Addr) (h : Heap) (v : Value) (ds : List PyData) : Prop := ∃ a, ∃ vs : List Value, v = .ref a ∧ PlainL h a vs.toArray ∧ RepAll Z h vs ds
noncomputable abbrev IsL (ds : List PyData) : List Addr → Heap → Heap → Value → Prop := fun Z _ h v => HasL Z h v ds
theorem HasL.weak {Z : List Addr} {h : Heap} {v : Value} {ds : List PyData} (x : HasL Z h v ds) : Rep [] h v (.list ds) := by
  obtain ⟨a, vs, rfl, h1, h2⟩ := x; exact .list (by simp) h1 h2.weak
theorem HasL.of_rep {Z : List Addr} {h : Heap} {v : Value} {ds : List PyData} (x : Rep Z h v (.list ds)) : HasL Z h v ds := by
  cases x with | list h1 h2 h3 => exact ⟨_, _, rfl, h2, h3⟩
theorem HasL.keeps {Z : List Addr} {h h' : Heap} {v : Value} {ds : List PyData} {base : Heap} (x : HasL Z h v ds) (k : Hext base h h') : HasL Z h' v ds := by
  obtain ⟨a, vs, rfl, h1, h2⟩ := x; exact ⟨a, vs, rfl, plainL_at h1 fun o hc e => k.ex (fun m => nomatch m) hc e, h2.keeps k⟩

theorem none_of_ext {base h h' : Heap} {a : Addr} (k : Hext base h h') (e : h'.get? a = none) : h.get? a = none := k.none_of (fun m => nomatch m) e
/-- F speaks of the heap behind monotonely, of the heap ahead antitonely -/
structure Good (F : List Addr → Heap → Heap → Value → Prop) : Prop where
  up : ∀ {base Z h₀ h h' v}, F Z h₀ h v → Hext base h h' → F Z h₀ h' v
  down : ∀ {base Z h₀ h₁ h v}, F Z h₁ h v → Hext base h₀ h₁ → F Z h₀ h v
theorem good_S (d : PyData) : Good (IsS d) := ⟨fun r k => r.keeps k, fun r _ => r⟩
theorem good_W (d : PyData) : Good (IsW d) := ⟨fun r k => r.keeps k, fun r _ => r⟩
theorem good_L (ds : List PyData) : Good (IsL ds) := ⟨fun r k => r.keeps k, fun r _ => r⟩
theorem good_new (ds : List PyData) : Good (IsNew ds) := ⟨fun ⟨a, vs, h1, h2, h3, h4⟩ k => ⟨a, vs, h1, h2, k.plain (fun m => nomatch m) h3, h4.keeps k⟩, fun {_ _ h₀ _ _ _} ⟨a, vs, h1, h2, h3, h4⟩ k => ⟨a, vs, h1, none_of_ext k h2, h3, h4⟩⟩

section
variable {prog : Program} {w : World} {K : Frag} {base : Heap} {d : Nat} {env : Env} {ρ : List (Str × Bnd)} {e l r v i : Expr} {pos : Pos} {F F' : List Addr → Heap → Heap → Value → Prop}

theorem Ev.mono (h : Ev prog w K base d env ρ e F) (k : ∀ Z h₀ h v, (∀ a ∈ Z, ∃ o, h₀.get? a = some o) → F Z h₀ h v → F' Z h₀ h v) : Ev prog w K base d env ρ e F' :=
  fun A Z s E W N => wpAny_mono (h A Z s E W N) (fun v s' x => ⟨k _ _ _ _ N.alive x.1, x.2⟩) fun _ _ x => x
theorem Ev.s_w {x : PyData} (h : Ev prog w K base d env ρ e (IsS x)) : Ev prog w K base d env ρ e (IsW x) := h.mono fun _ _ _ _ _ r => r.weak
theorem Ev.s_l {ds : List PyData} (h : Ev prog w K base d env ρ e (IsS (.list ds))) : Ev prog w K base d env ρ e (IsL ds) := h.mono fun _ _ _ _ _ r => HasL.of_rep r
theorem Ev.l_w {ds : List PyData} (h : Ev prog w K base d env ρ e (IsL ds)) : Ev prog w K base d env ρ e (IsW (.list ds)) := h.mono fun _ _ _ _ _ r => r.weak
theorem Ev.n_s {ds : List PyData} (h : Ev prog w K base d env ρ e (IsNew ds)) : Ev prog w K base d env ρ e (IsS (.list ds)) := h.mono fun Z h₀ h v al ⟨a, vs, h1, h2, h3, h4⟩ => by
  subst h1
  refine .list (fun m => ?_) (plain_L h3) h4
  obtain ⟨o, q⟩ := al a m
  rw [h2] at q; cases q
theorem Ev.n_l {ds : List PyData} (h : Ev prog w K base d env ρ e (IsNew ds)) : Ev prog w K base d env ρ e (IsL ds) := h.n_s.s_l
theorem Ev.n_w {ds : List PyData} (h : Ev prog w K base d env ρ e (IsNew ds)) : Ev prog w K base d env ρ e (IsW (.list ds)) := h.n_s.s_w

/-! names, constants -/
theorem ev_fz {x : Str} {p : Pos} {dx : PyData} (hx : ρ.lookup x = some (.fz dx)) (hd : (x == ("__debug__" : Str)) = false := by decide) : Ev prog w K base d env ρ (.Name x p) (IsS dx) := fun A Z s E W N => by
  obtain ⟨v, ft, hv, hb, _⟩ := N.var x _ hx
  exact wpAny_Name (hv.load N.fw.kind ⟨hb.2, keeps_refl s⟩) hd
theorem ev_own {x : Str} {p : Pos} {ds : List PyData} (hx : ρ.lookup x = some (.own ds)) (hd : (x == ("__debug__" : Str)) = false := by decide) : Ev prog w K base d env ρ (.Name x p) (IsL ds) := fun A Z s E W N => by
  obtain ⟨v, ft, hv, ⟨a, vs, rfl, _, h1, h2⟩, _⟩ := N.var x _ hx
  exact wpAny_Name (hv.load N.fw.kind ⟨⟨a, vs, rfl, plain_L h1, h2⟩, keeps_refl s⟩) hd
theorem ev_global {x : Str} {p : Pos} {u : Value} (hg : nsIn K mainGlobals x = some (some u)) (hx : env.kindOf x = some .globalImplicit) (hd : (x == ("__debug__" : Str)) = false := by decide) :
    Ev prog w K base d env ρ (.Name x p) (fun _ _ _ v => v = u) := fun A Z s E W N => by
  refine Name_function_global N.fw.kind hx ?_ hd
  unfold loadGlobal
  rw [N.fw.glob]
  refine wpAny_bind (looks_nsIn (M := model prog w) W.K hg A _ E s (fun _ _ e => e) ?_)
  exact wpAny_pure ⟨rfl, keeps_refl s⟩
theorem ev_builtin {x : Str} {p : Pos} {u : Value} (hg : nsIn K mainGlobals x = some none) (hb : bootBuiltins x = some u) (hx : env.kindOf x = some .globalImplicit) (hn : x ≠ "__name__" := by decide) (hd : (x == ("__debug__" : Str)) = false := by decide) :
    Ev prog w K base d env ρ (.Name x p) (fun _ _ _ v => v = u) := fun A Z s E W N => by
  refine Name_function_global N.fw.kind hx ?_ hd
  unfold loadGlobal
  rw [N.fw.glob, N.fw.blt]
  refine wpAny_bind (looks_nsIn (M := model prog w) W.K hg A _ E s (fun _ _ e => e) ?_)
  obtain ⟨mb, h1, h2⟩ := W.b.bn
  refine wpAny_bind (wpAny_nsGet (h1.keeps W.stays) ?_)
  rw [h2 x hn, hb]
  exact wpAny_pure ⟨rfl, keeps_refl s⟩
theorem ev_int {n : Int} {k : Nat} {p : Pos} : Ev prog w K base d env ρ (.Constant (.int n) k p) (IsS (.int n)) := fun A Z s E W N => wpAny_Constant_int ⟨.int _ _, keeps_tok s _⟩
theorem ev_str {x : Str} {k : Nat} {p : Pos} : Ev prog w K base d env ρ (.Constant (.str x) k p) (IsS (.str x)) := fun A Z s E W N => Constant_str ⟨.str _ _, keeps_tok s _⟩
theorem ev_bool {b : Bool} {k : Nat} {p : Pos} : Ev prog w K base d env ρ (.Constant (.bool b) k p) (IsS (.bool b)) := fun A Z s E W N => wpAny_Constant_bool ⟨.bool _, keeps_refl s⟩
/-! two operands -/
theorem ev_two {op : Operator} {F1 F2 : List Addr → Heap → Heap → Value → Prop} (hl : Ev prog w K base d env ρ l F1) (hr : Ev prog w K base d env ρ r F2) (g1 : Good F1) (g : Good F)
    (h : ∀ A Z s E a b h₀ h₁, Wd K base d A s.heap → (∀ a ∈ Z, ∃ o, s.heap.get? a = some o) → F1 Z h₀ s.heap a → F2 Z h₁ s.heap b → wpAny (model prog w) A (binaryOp op a b) (fun v s' => F Z s.heap s'.heap v ∧ Keep base s s') E s) :
    Ev prog w K base d env ρ (.BinOp l op r pos) F := fun A Z s E W N => by
  refine wpAny_BinOp (wpAny_mono (hl A Z s E W N) (fun a s₁ h₁ => ?_) fun _ _ x => x)
  obtain ⟨q1, k1⟩ := h₁
  refine wpAny_mono (hr A Z s₁ E (W.keeps (kext k1)) (N.keeps (kext k1))) (fun b s₂ h₂ => ?_) fun _ _ x => x
  obtain ⟨q2, k2⟩ := h₂
  have kk := keeps_trans k1 k2
  refine wpAny_mono (h A Z s₂ E a b _ _ (W.keeps (kext kk)) (N.keeps (kext kk)).alive (g1.up q1 (kext k2)) q2) (fun v s₃ h₃ => ?_) fun _ _ x => x
  exact ⟨g.down h₃.1 (kext kk), keeps_trans kk h₃.2⟩

theorem rep_int {Z : List Addr} {h : Heap} {v : Value} {n : Int} (r : Rep Z h v (.int n)) : ∃ t, v = .int n t := by cases r; exact ⟨_, rfl⟩
theorem rep_str {Z : List Addr} {h : Heap} {v : Value} {x : Str} (r : Rep Z h v (.str x)) : ∃ t, v = .str x t := by cases r; exact ⟨_, rfl⟩
theorem rep_bool {Z : List Addr} {h : Heap} {v : Value} {b : Bool} (r : Rep Z h v (.bool b)) : v = .bool b := by cases r; rfl
theorem rep_none {Z : List Addr} {h : Heap} {v : Value} (r : Rep Z h v .none) : v = .none := by cases r; rfl

theorem ev_add {a b : Int} (hl : Ev prog w K base d env ρ l (IsW (.int a))) (hr : Ev prog w K base d env ρ r (IsW (.int b))) : Ev prog w K base d env ρ (.BinOp l .Add r pos) (IsS (.int (a + b))) :=
  ev_two hl hr (good_W _) (good_S _) fun A Z s E x y _ _ W al p q => by
    obtain ⟨t, rfl⟩ := rep_int p; obtain ⟨u, rfl⟩ := rep_int q
    exact PySem.P.add_int ⟨.int _ _, keeps_tok s _⟩
theorem ev_sub {a b : Int} (hl : Ev prog w K base d env ρ l (IsW (.int a))) (hr : Ev prog w K base d env ρ r (IsW (.int b))) : Ev prog w K base d env ρ (.BinOp l .Sub r pos) (IsS (.int (a - b))) :=
  ev_two hl hr (good_W _) (good_S _) fun A Z s E x y _ _ W al p q => by
    obtain ⟨t, rfl⟩ := rep_int p; obtain ⟨u, rfl⟩ := rep_int q
    exact PySem.P.sub_int ⟨.int _ _, keeps_tok s _⟩
theorem ev_mod {a b : Int} (hl : Ev prog w K base d env ρ l (IsW (.int a))) (hr : Ev prog w K base d env ρ r (IsW (.int b))) (hb : 0 < b) : Ev prog w K base d env ρ (.BinOp l .Mod r pos) (IsS (.int (a % b))) :=
  ev_two hl hr (good_W _) (good_S _) fun A Z s E x y _ _ W al p q => by
    obtain ⟨t, rfl⟩ := rep_int p; obtain ⟨u, rfl⟩ := rep_int q
    refine mod_int' (by omega) ⟨?_, keeps_tok s _⟩
    rw [Int.fmod_eq_emod_of_nonneg _ (by omega)]
    exact .int _ _
theorem ev_div {a b : Int} (hl : Ev prog w K base d env ρ l (IsW (.int a))) (hr : Ev prog w K base d env ρ r (IsW (.int b))) (hb : 0 < b) (ha : 0 ≤ a) (ha' : a < 2 ^ 30) (hb' : b < 2 ^ 30) : Ev prog w K base d env ρ (.BinOp l .FloorDiv r pos) (IsS (.int (a / b))) :=
  ev_two hl hr (good_W _) (good_S _) fun A Z s E x y _ _ W al p q => by
    obtain ⟨t, rfl⟩ := rep_int p; obtain ⟨u, rfl⟩ := rep_int q
    refine floordiv_int (by omega) ⟨?_, keeps_tok s _⟩ (Or.inl (PyProof.noPylong_small (by omega)))
    rw [Int.fdiv_eq_ediv_of_nonneg _ (by omega)]
    exact .int _ _
theorem ev_pow {a n : Int} (hl : Ev prog w K base d env ρ l (IsW (.int a))) (hr : Ev prog w K base d env ρ r (IsW (.int n))) (hn : 0 ≤ n) (hn2 : n ≤ 1000000) (ha : a.natAbs < 2 ^ 64) : Ev prog w K base d env ρ (.BinOp l .Pow r pos) (IsS (.int (a ^ n.toNat))) :=
  ev_two hl hr (good_W _) (good_S _) fun A Z s E x y _ _ W al p q => by
    obtain ⟨t, rfl⟩ := rep_int p; obtain ⟨u, rfl⟩ := rep_int q
    exact pow_int_small hn hn2 ha ⟨.int _ _, keeps_tok s _⟩

theorem push_new' {h : Heap} {o : Obj} : ∀ b x, h.get? b = some x → (h.push o).get? b = some x := fun _ _ e => Heap.get?_push_of_some _ e
theorem push_new {base h : Heap} {o : Obj} : Hext base h (h.push o) := .of' push_new'
theorem Rep.push {Z : List Addr} {h : Heap} {v : Value} {d : PyData} {o : Obj} (r : Rep Z h v d) : Rep Z (h.push o) v d := r.keeps (base := h) push_new
theorem RepAll.push {Z : List Addr} {h : Heap} {vs : List Value} {ds : List PyData} {o : Obj} (r : RepAll Z h vs ds) : RepAll Z (h.push o) vs ds := r.keeps (base := h) push_new
theorem none_at (h : Heap) : h.get? h.objs.size = none := Heap.get?_none_of_le (Nat.le_refl _)

theorem ev_cat {ds es : List PyData} (hl : Ev prog w K base d env ρ l (IsL ds)) (hr : Ev prog w K base d env ρ r (IsL es)) (hz : ds.length + es.length ≤ 1000000) : Ev prog w K base d env ρ (.BinOp l .Add r pos) (IsNew (ds ++ es)) :=
  ev_two hl hr (good_L _) (good_new _) fun A Z s E x y _ _ W al p q => by
    obtain ⟨a, vs, rfl, h1, h2⟩ := p; obtain ⟨b, ws, rfl, h3, h4⟩ := q
    obtain ⟨⟨cls, dd, data, sl⟩, n, ho, hc, hdd, hd⟩ := id h1
    obtain ⟨⟨cls2, dd2, data2, sl2⟩, n2, ho2, hc2, hdd2, hd2⟩ := id h3
    simp only at hc hd hc2 hd2
    subst hc hd hc2 hd2
    have e : vs.toArray ++ ws.toArray = (vs ++ ws).toArray := by simp
    have l1 := h2.length
    have l2 := h4.length
    refine concat_meets ⟨_, ho, rfl⟩ ⟨_, ho2, rfl⟩ noFill_list_add seq_list_add PySem.F.slot_list_add PySem.F.entry_list_add (PySem.F.args_list_add_2 _ _) (list_addW a b vs.toArray ws.toArray n n2 dd dd2 sl sl2 (by
      simp only [List.size_toArray]; rw [l1, l2]; exact Nat.le_trans hz (by decide))) ⟨ho, ho2, ?_⟩
    rw [e]
    exact ⟨⟨_, _, rfl, none_at _, ⟨0, Heap.get?_push_size _ rfl⟩, h2.push.append h4.push⟩, keeps_heap s _ _ push_new'⟩

theorem foldl_rep (xs : Array Value) : ∀ (n : Nat) (acc : Array Value), List.foldl (fun x1 x2 => x1 ++ x2) acc (List.replicate n xs) = acc ++ (List.replicate n xs.toList).flatten.toArray
  | 0, acc => by simp
  | n + 1, acc => by
    rw [List.replicate_succ, List.foldl_cons, foldl_rep xs n, List.replicate_succ, List.flatten_cons]
    apply Array.ext'
    simp
theorem repAll_rep {Z : List Addr} {h : Heap} {v : Value} {dx : PyData} (r : Rep Z h v dx) : ∀ n : Nat, RepAll Z h (List.replicate n v) (List.replicate n dx)
  | 0 => .nil
  | n + 1 => .cons r (repAll_rep r n)

theorem ev_times {dx : PyData} {n : Int} (hl : Ev prog w K base d env ρ l (IsNew [dx])) (hr : Ev prog w K base d env ρ r (IsW (.int n))) (h0 : 0 ≤ n) (h1 : n ≤ 1000000) : Ev prog w K base d env ρ (.BinOp l .Mult r pos) (IsNew (List.replicate n.toNat dx)) :=
  ev_two hl hr (good_new _) (good_new _) fun A Z s E x y _ _ W al p q => by
    obtain ⟨a, vs, rfl, hn, ⟨c, hl⟩, h2⟩ := p; obtain ⟨u, rfl⟩ := rep_int q
    obtain ⟨v₀, rfl⟩ : ∃ v, vs = [v] := by cases h2 with | cons _ t => cases t; exact ⟨_, rfl⟩
    have hone : ∀ n : Int, (#[v₀] : Array Value).size * n.toNat = n.toNat := fun n => by simp
    refine wpAny_binaryOp_repeat_ref (T := "list") (U := "int") (by decide) ⟨_, hl, rfl⟩ (fun s' => typeIs_int s' n u) noFill_list_mul PySem.F.fills_int_mul PySem.F.slot_int_rmul repeat_list PySem.F.slot_int_index.lookup
      (call_meets PySem.F.slot_int_rmul (typeIs_int s n u) PySem.F.entry_int_rmul (PySem.F.args_int_rmul_2 _ _) (int___rmul___int_list n u a #[v₀] c)
        ⟨hl, rfl, ⟨_, hl, rfl⟩, call_meets PySem.F.slot_list_mul ⟨_, hl, rfl⟩ PySem.F.entry_list_mul (PySem.F.args_list_mul_2 _ _)
          (AutoListH.list___mul___list_int_3 a #[v₀] c n u (by simp [Builtin.List.listFitsIndex]; omega) (by have := hone n; omega) (by simp only [Builtin.List.listTooLong, sizeLine, hone]; rw [decide_eq_true_eq]; omega))
          ⟨hl, ?_⟩⟩)
    refine ⟨⟨_, List.replicate n.toNat v₀, rfl, none_at _, ⟨0, ?_⟩, repAll_rep ?_ _⟩, keeps_heap s _ _ push_new'⟩
    · rw [Heap.get?_push_size _ rfl]
      have : List.foldl (fun x1 x2 => x1 ++ x2) #[] (List.replicate (if (#[v₀] : Array Value).isEmpty = true then 0 else n.toNat) #[v₀]) = (List.replicate n.toNat v₀).toArray := by
        rw [if_neg (by simp), foldl_rep]
        have : ∀ m : Nat, (List.replicate m [v₀]).flatten = List.replicate m v₀ := by
          intro m; induction m with
          | zero => rfl
          | succ m ih => simp [List.replicate_succ, ih]
        simp [this]
      rw [this]
    · cases h2 with | cons h3 _ => exact h3.push
end
end Mine
end

section
open PySem PySem.W PyProof.Rows PySem.Calls
namespace Mine

/-- a datum that may be compared -/
noncomputable def OkD (k : Nat) (d : PyData) : Prop := d.canLay0 = true ∧ d.depth ≤ k
theorem ok_int {k : Nat} (n : Int) : OkD k (.int n) := ⟨rfl, Nat.zero_le _⟩
theorem ok_bool {k : Nat} (b : Bool) : OkD k (.bool b) := ⟨rfl, Nat.zero_le _⟩
theorem ok_str {k : Nat} {x : Str} (h : PyData.strOk x = true) : OkD k (.str x) := ⟨h, Nat.zero_le _⟩
theorem ok_all {k : Nat} : ∀ {ds : List PyData}, (∀ d ∈ ds, OkD k d) → PyData.canLayAll0 ds = true ∧ PyData.depthAll ds ≤ k
  | [], _ => ⟨rfl, Nat.zero_le _⟩
  | d :: r, h => by
    have h1 := h d (.head _)
    have h2 := ok_all fun e he => h e (.tail _ he)
    refine ⟨?_, ?_⟩
    · simp [PyData.canLayAll0, h1.1, h2.1]
    · have := h1.2; have := h2.2
      show max _ _ ≤ k
      omega
theorem ok_list {k : Nat} {ds : List PyData} (h : ∀ d ∈ ds, OkD k d) : OkD (k + 1) (.list ds) := by
  have := ok_all h
  refine ⟨this.1, ?_⟩
  show PyData.depthAll ds + 1 ≤ k + 1
  omega
theorem ok_tuple {k : Nat} {ds : List PyData} (h : ∀ d ∈ ds, OkD k d) : OkD (k + 1) (.tuple ds) := by
  have := ok_all h
  refine ⟨this.1, ?_⟩
  show PyData.depthAll ds + 1 ≤ k + 1
  omega
theorem OkD.more {k k' : Nat} {d : PyData} (h : OkD k d) (hk : k ≤ k') : OkD k' d := ⟨h.1, Nat.le_trans h.2 hk⟩

/-- a test -/
noncomputable def Tst (prog : Program) (w : World) (K : Frag) (base : Heap) (d : Nat) (env : Env) (ρ : List (Str × Bnd)) (e : Expr) (b : Bool) : Prop :=
  ∀ A Z s E, Wd K base d A s.heap → Nm Z env ρ s.heap → wpAny (model prog w) A (isTrue e env (eval e env)) (fun r s' => r = b ∧ Keep base s s') E s
/-- several expressions -/
noncomputable def Evs (prog : Program) (w : World) (K : Frag) (base : Heap) (d : Nat) (env : Env) (ρ : List (Str × Bnd)) (pos : Pos) (es : List Expr) (F : List Addr → Heap → Heap → List Value → Prop) : Prop :=
  ∀ A Z s E, Wd K base d A s.heap → Nm Z env ρ s.heap → wpAny (model prog w) A (spliced (backTo pos (starEach es env))) (fun vs s' => F Z s.heap s'.heap vs ∧ Keep base s s') E s
noncomputable abbrev AllS (ds : List PyData) : List Addr → Heap → Heap → List Value → Prop := fun Z _ h vs => RepAll Z h vs ds
section
variable {prog : Program} {w : World} {K : Frag} {base : Heap} {d : Nat} {env : Env} {ρ : List (Str × Bnd)} {e l r v i : Expr} {pos : Pos} {F F' : List Addr → Heap → Heap → Value → Prop}

theorem evs_nilS : Evs prog w K base d env ρ pos [] (AllS []) := fun A Z s E W N => spliced_nil ⟨.nil, keeps_refl s⟩
theorem evs_cons {es : List Expr} {x : PyData} {xs : List PyData} (h1 : Ev prog w K base d env ρ e (IsS x)) (h2 : Evs prog w K base d env ρ pos es (AllS xs))
    (hs : starEach (e :: es) env = (false, eval e env) :: starEach es env := by rfl) : Evs prog w K base d env ρ pos (e :: es) (AllS (x :: xs)) := fun A Z s E W N => by
  rw [hs]
  refine spliced_cons (wpAny_mono (h1 A Z s E W N) (fun v s₁ q₁ => ?_) fun _ _ x => x)
  obtain ⟨r1, k1⟩ := q₁
  refine wpAny_mono (h2 A Z s₁ E (W.keeps (kext k1)) (N.keeps (kext k1))) (fun vs s₂ q₂ => ?_) fun _ _ x => x
  obtain ⟨r2, k2⟩ := q₂
  exact ⟨.cons (r1.keeps (kext k2)) r2, keeps_trans k1 k2⟩
theorem evs_one {es : List Expr} (h1 : Ev prog w K base d env ρ e F) (hs : starEach [e] env = [(false, eval e env)] := by rfl) : Evs prog w K base d env ρ pos [e] (fun Z h₀ h vs => ∃ v, vs = [v] ∧ F Z h₀ h v) := fun A Z s E W N => by
  rw [hs]
  refine spliced_cons (wpAny_mono (h1 A Z s E W N) (fun v s₁ q₁ => ?_) fun _ _ x => x)
  exact spliced_nil ⟨⟨v, rfl, q₁.1⟩, q₁.2⟩
theorem evs_three {e' e'' : Expr} {F1 F2 F3 : List Addr → Heap → Heap → Value → Prop} (h1 : Ev prog w K base d env ρ e F1) (h2 : Ev prog w K base d env ρ e' F2) (h3 : Ev prog w K base d env ρ e'' F3) (g1 : Good F1) (g2 : Good F2) (g3 : Good F3)
    (hs : starEach [e, e', e''] env = [(false, eval e env), (false, eval e' env), (false, eval e'' env)] := by rfl) : Evs prog w K base d env ρ pos [e, e', e''] (fun Z h₀ h vs => ∃ v v' v'', vs = [v, v', v''] ∧ F1 Z h₀ h v ∧ F2 Z h₀ h v' ∧ F3 Z h₀ h v'') := fun A Z s E W N => by
  rw [hs]
  refine spliced_cons (wpAny_mono (h1 A Z s E W N) (fun v s₁ q₁ => ?_) fun _ _ x => x)
  obtain ⟨r1, k1⟩ := q₁
  refine spliced_cons (wpAny_mono (h2 A Z s₁ E (W.keeps (kext k1)) (N.keeps (kext k1))) (fun v' s₂ q₂ => ?_) fun _ _ x => x)
  obtain ⟨r2, k2⟩ := q₂
  have k12 := keeps_trans k1 k2
  refine spliced_cons (wpAny_mono (h3 A Z s₂ E (W.keeps (kext k12)) (N.keeps (kext k12))) (fun v'' s₃ q₃ => ?_) fun _ _ x => x)
  obtain ⟨r3, k3⟩ := q₃
  exact spliced_nil ⟨⟨v, v', v'', rfl, g1.up r1 (kext (keeps_trans k2 k3)), g2.up (g2.down r2 (kext k1)) (kext k3), g3.down r3 (kext k12)⟩, keeps_trans k12 k3⟩

theorem ev_list {es : List Expr} {ds : List PyData} (h : Evs prog w K base d env ρ pos es (AllS ds)) (hz : ds.length ≤ 1000) : Ev prog w K base d env ρ (.List es pos) (IsNew ds) := fun A Z s E W N => by
  refine List_ (wpAny_mono (h A Z s E W N) (fun vs s₁ q₁ => ?_) fun _ _ x => x)
  obtain ⟨r1, k1⟩ := q₁
  have hl := r1.length
  refine wpAny_newObj_type ⟨⟨_, vs, rfl, ?_, ⟨0, Heap.get?_push_size _ rfl⟩, r1.push⟩, keeps_trans k1 (keeps_heap s₁ _ _ push_new')⟩ (by
    show vs.toArray.size ≤ sizeLine; rw [List.size_toArray, hl]; exact Nat.le_trans hz (by decide))
  exact none_of_ext (kext k1) (none_at _)
theorem ev_tuple {es : List Expr} {ds : List PyData} {k : Nat} (h : Evs prog w K base d env ρ pos es (AllS ds)) (hz : ds.length ≤ 1000) : Ev prog w K base d env ρ (.Tuple es k pos) (IsS (.tuple ds)) := fun A Z s E W N => by
  refine Tuple_ (wpAny_mono (h A Z s E W N) (fun vs s₁ q₁ => ?_) fun _ _ x => x)
  obtain ⟨r1, k1⟩ := q₁
  have hl := r1.length
  have al := (N.keeps (kext k1)).alive
  refine wpAny_newObj_type ⟨.tuple (fun m => ?_) (IsTup.new _ _) (r1.push), keeps_trans k1 (keeps_heap s₁ _ _ push_new')⟩ (by
    show vs.toArray.size ≤ sizeLine; rw [List.size_toArray, hl]; exact Nat.le_trans hz (by decide))
  obtain ⟨o, q⟩ := al _ m
  rw [none_at] at q; cases q

/-! subscripts -/
theorem wp_getitemInPython {A : Around} {E : Value → Shared → Prop} {s : Shared} {o : Value} {T id : String} {Q : Bool → Shared → Prop} (hT : s.TypeIs o T) (hl : typeLookup (.type T) "__getitem__" = pure (some (.builtin id))) (h : Q false s) :
    wpAny (model prog w) A (getitemInPython o) Q E s := by
  unfold getitemInPython
  exact wpAny_bind (wpAny_specialOf hT hl (wpAny_pure h))

theorem ev_sub' {F1 F2 : List Addr → Heap → Heap → Value → Prop} (hv : Ev prog w K base d env ρ v F1) (hi : Ev prog w K base d env ρ i F2) (g1 : Good F1) (g : Good F)
    (h : ∀ A Z s E a b h₀ h₁, Wd K base d A s.heap → (∀ a ∈ Z, ∃ o, s.heap.get? a = some o) → F1 Z h₀ s.heap a → F2 Z h₁ s.heap b → ∃ T id, typeLookup (.type T) "__getitem__" = pure (some (.builtin id)) ∧ s.TypeIs a T ∧
      wpAny (model prog w) A (getItem a b) (fun v s' => F Z s.heap s'.heap v ∧ Keep base s s') E s)
    (hs : ∀ a b, ∃ ops, subscripted i false a b = operate ops (getItem a b) := by intro _ _; exact ⟨_, rfl⟩) :
    Ev prog w K base d env ρ (.Subscript v i pos) F := fun A Z s E W N => by
  rw [arm_eval_Subscript]
  refine wpAny_bind (wpAny_mono (hv A Z s E W N) (fun a s₁ h₁ => ?_) fun _ _ x => x)
  obtain ⟨q1, k1⟩ := h₁
  refine wpAny_bind (wpAny_holding (wpAny_mono (hi A Z s₁ E (W.keeps (kext k1)) (N.keeps (kext k1))) (fun b s₂ h₂ => ?_) fun _ _ x => x))
  obtain ⟨q2, k2⟩ := h₂
  have kk := keeps_trans k1 k2
  refine wpAny_bind (wpAny_standAt ?_)
  obtain ⟨T, id, hl, hT, hg⟩ := h A Z s₂ E a b _ _ (W.keeps (kext kk)) (N.keeps (kext kk)).alive (g1.up q1 (kext k2)) q2
  refine wpAny_bind (wp_getitemInPython hT hl ?_)
  obtain ⟨ops, e⟩ := hs a b
  rw [e]
  refine wpAny_bind (wpAny_operate' (wpAny_mono hg (fun r s₃ h₃ => ?_) fun _ _ x => x))
  refine wpAny_bind (wpAny_letTemporaryGo (wpAny_pure ⟨g.down h₃.1 (kext kk), keeps_trans kk h₃.2⟩))

theorem ev_item {ds : List PyData} {k : Int} {x : PyData} (hv : Ev prog w K base d env ρ v (IsL ds)) (hi : Ev prog w K base d env ρ i (IsW (.int k))) (h0 : 0 ≤ k) (hk : k < 1000000) (hx : ds[k.toNat]? = some x)
    (hs : ∀ a b, ∃ ops, subscripted i false a b = operate ops (getItem a b) := by intro _ _; exact ⟨_, rfl⟩) : Ev prog w K base d env ρ (.Subscript v i pos) (IsS x) :=
  ev_sub' hv hi (good_L _) (good_S _) (hs := hs) fun A Z s E a b _ _ W al p q => by
    obtain ⟨l, vs, rfl, h1, h2⟩ := p; obtain ⟨u, rfl⟩ := rep_int q
    obtain ⟨y, hy, ry⟩ := h2.get hx
    exact ⟨"list", _, slot_list_getitem.lookup, h1.isList.typeIs, wpAny_getItem_list h1.isList h0 (by omega) (by simpa using hy) ⟨ry, keeps_refl s⟩⟩
theorem ev_last {ds : List PyData} {x : PyData} (hv : Ev prog w K base d env ρ v (IsL ds)) (hi : Ev prog w K base d env ρ i (IsW (.int (-1)))) (hx : ds[ds.length - 1]? = some x) (hz : ds.length ≤ 1000000)
    (hs : ∀ a b, ∃ ops, subscripted i false a b = operate ops (getItem a b) := by intro _ _; exact ⟨_, rfl⟩) : Ev prog w K base d env ρ (.Subscript v i pos) (IsS x) :=
  ev_sub' hv hi (good_L _) (good_S _) (hs := hs) fun A Z s E a b _ _ W al p q => by
    obtain ⟨l, vs, rfl, h1, h2⟩ := p; obtain ⟨u, rfl⟩ := rep_int q
    obtain ⟨y, hy, ry⟩ := h2.get hx
    have hl := h2.length
    have hpos : 0 < ds.length := by
      cases ds with
      | nil => simp at hx
      | cons _ _ => simp
    refine ⟨"list", _, slot_list_getitem.lookup, h1.isList.typeIs, wpAny_getItem_list_neg h1.isList (by decide) (by rw [List.size_toArray, hl]; omega) (by decide) ?_ ⟨ry, keeps_refl s⟩⟩
    have e : ((-1 : Int) + (vs.toArray.size : Nat)).toNat = ds.length - 1 := by rw [List.size_toArray, hl]; omega
    rw [e]; simpa using hy
theorem ev_tupitem {ds : List PyData} {k : Int} {x : PyData} (hv : Ev prog w K base d env ρ v (IsS (.tuple ds))) (hi : Ev prog w K base d env ρ i (IsW (.int k))) (h0 : 0 ≤ k) (hk : k < 1000000) (hx : ds[k.toNat]? = some x)
    (hs : ∀ a b, ∃ ops, subscripted i false a b = operate ops (getItem a b) := by intro _ _; exact ⟨_, rfl⟩) : Ev prog w K base d env ρ (.Subscript v i pos) (IsS x) :=
  ev_sub' hv hi (good_S _) (good_S _) (hs := hs) fun A Z s E a b _ _ W al p q => by
    obtain ⟨u, rfl⟩ := rep_int q
    cases p with
    | tuple ha h1 h2 =>
      obtain ⟨y, hy, ry⟩ := h2.get hx
      have hlt : k.toNat < ds.length := (List.getElem?_eq_some_iff.mp hx).1
      have hl := h2.length
      exact ⟨"tuple", _, slot_tuple_getitem.lookup, h1.typeIs, getItem_tuple h1 (by omega) (by omega) (seqIndex_of h0 (by rw [List.size_toArray, hl]; omega)) (by simpa using hy) ⟨ry, keeps_refl s⟩⟩

theorem pick_to (items : Array Value) (k : Int) (h0 : 0 ≤ k) : slicePick items none (some k) none = (items.toList.take k.toNat).toArray := by
  obtain ⟨n, rfl⟩ := Int.eq_ofNat_of_zero_le h0
  by_cases h : n ≤ items.size
  · exact slicePick_upto items n h
  · have e : sliceBounds none (some (n : Int)) none items.size = (((0 : Nat) : Int), (items.size : Int), 1) := by
      simp only [sliceBounds, Option.getD_none]
      have h2 : ¬ ((n : Int) < 0) := by omega
      simp only [h2, if_false, show (1 : Int) > 0 by decide, if_true]
      congr 1
      congr 1; omega
    unfold slicePick
    rw [e]
    simp only [sliceRange_one, pick_run]
    have e2 : (↑n : Int).toNat = n := by simp
    rw [e2]
    have t1 : List.take (items.size - 0) (List.drop 0 items.toList) = items.toList := by rw [List.drop_zero, Nat.sub_zero]; exact List.take_of_length_le (by simp)
    have t2 : List.take n items.toList = items.toList := List.take_of_length_le (by simp; omega)
    rw [t1, t2]
theorem pick_from (items : Array Value) (k : Int) (h0 : 0 ≤ k) : slicePick items (some k) none none = (items.toList.drop k.toNat).toArray := by
  obtain ⟨n, rfl⟩ := Int.eq_ofNat_of_zero_le h0
  by_cases h : n ≤ items.size
  · exact slicePick_from items n h
  · have e : sliceBounds (some (n : Int)) none none items.size = ((items.size : Int), (items.size : Int), 1) := by
      simp only [sliceBounds, Option.getD_none]
      have h2 : ¬ ((n : Int) < 0) := by omega
      simp only [h2, if_false, show (1 : Int) > 0 by decide, if_true]
      congr 1; omega
    unfold slicePick
    rw [e]
    simp only [sliceRange_one, pick_run]
    have e2 : (↑n : Int).toNat = n := by simp
    rw [e2, List.drop_eq_nil_of_le (by simp), List.drop_eq_nil_of_le (by simp; omega)]
    simp

theorem RepAll.take {Z : List Addr} {h : Heap} {vs : List Value} {ds : List PyData} (r : RepAll Z h vs ds) : ∀ k : Nat, RepAll Z h (vs.take k) (ds.take k) := by
  induction vs generalizing ds with
  | nil => cases r; intro k; simpa using RepAll.nil
  | cons v vs ih =>
    cases r with
    | cons h1 h2 =>
      intro k
      cases k with
      | zero => exact .nil
      | succ k => exact .cons h1 (ih h2 k)
theorem RepAll.drop {Z : List Addr} {h : Heap} {vs : List Value} {ds : List PyData} (r : RepAll Z h vs ds) : ∀ k : Nat, RepAll Z h (vs.drop k) (ds.drop k) := by
  induction vs generalizing ds with
  | nil => cases r; intro k; simpa using RepAll.nil
  | cons v vs ih =>
    cases r with
    | cons h1 h2 =>
      intro k
      cases k with
      | zero => exact .cons h1 h2
      | succ k => exact ih h2 k

theorem isPart_int {Z : List Addr} {h : Heap} {v : Value} {n : Int} (r : Rep Z h v (.int n)) : IsPart v (some n) := by cases r; exact .int _ _

noncomputable abbrev IsSl (lo hi : Option Int) : List Addr → Heap → Heap → Value → Prop := fun _ _ h v => ∃ a vl vu, v = .ref a ∧ h.IsSliceOf a vl vu .none ∧ IsPart vl lo ∧ IsPart vu hi
theorem ev_sl_to {u : Expr} {k : Int} {p : Pos} (hu : Ev prog w K base d env ρ u (IsW (.int k))) : Ev prog w K base d env ρ (.Slice none (some u) none p) (IsSl none (some k)) := fun A Z s E W N => by
  refine wpAny_Slice (wpAny_evalPart_none (wpAny_mono (hu A Z s E W N) (fun v s₁ q => ?_) fun _ _ x => x))
  exact wpAny_evalPart_none ⟨⟨_, _, _, rfl, Heap.IsSliceOf.new .., .none, isPart_int q.1⟩, keeps_trans q.2 (keeps_heap s₁ _ _ push_new')⟩
theorem ev_sl_from {u : Expr} {k : Int} {p : Pos} (hu : Ev prog w K base d env ρ u (IsW (.int k))) : Ev prog w K base d env ρ (.Slice (some u) none none p) (IsSl (some k) none) := fun A Z s E W N => by
  refine wpAny_Slice (wpAny_mono (hu A Z s E W N) (fun v s₁ q => ?_) fun _ _ x => x)
  exact wpAny_evalPart_none (wpAny_evalPart_none ⟨⟨_, _, _, rfl, Heap.IsSliceOf.new .., isPart_int q.1, .none⟩, keeps_trans q.2 (keeps_heap s₁ _ _ push_new')⟩)
theorem ev_take {u : Expr} {k : Int} {p : Pos} {ds : List PyData} (hv : Ev prog w K base d env ρ v (IsL ds)) (hu : Ev prog w K base d env ρ u (IsW (.int k))) (h0 : 0 ≤ k) (hz : ds.length ≤ 1000000) :
    Ev prog w K base d env ρ (.Subscript v (.Slice none (some u) none p) pos) (IsNew (ds.take k.toNat)) :=
  ev_sub' hv (ev_sl_to hu) (good_L _) (good_new _) fun A Z s E a b _ _ W al p q => by
    obtain ⟨l, vs, rfl, h1, h2⟩ := p
    obtain ⟨c, vl, vu, rfl, hs, pl, pu⟩ := q
    have hl := h2.length
    refine ⟨"list", _, slot_list_getitem.lookup, h1.isList.typeIs, wpAny_getItem_list_slice h1.isList hs pl pu .none (by simp) ?_ (by rw [List.size_toArray, hl]; exact Nat.le_trans hz (by decide))⟩
    rw [pick_to _ _ h0]
    exact ⟨⟨_, _, rfl, none_at _, ⟨0, Heap.get?_push_size _ rfl⟩, (h2.take _).push⟩, keeps_heap s _ _ push_new'⟩
theorem ev_drop {u : Expr} {k : Int} {p : Pos} {ds : List PyData} (hv : Ev prog w K base d env ρ v (IsL ds)) (hu : Ev prog w K base d env ρ u (IsW (.int k))) (h0 : 0 ≤ k) (hz : ds.length ≤ 1000000) :
    Ev prog w K base d env ρ (.Subscript v (.Slice (some u) none none p) pos) (IsNew (ds.drop k.toNat)) :=
  ev_sub' hv (ev_sl_from hu) (good_L _) (good_new _) fun A Z s E a b _ _ W al p q => by
    obtain ⟨l, vs, rfl, h1, h2⟩ := p
    obtain ⟨c, vl, vu, rfl, hs, pl, pu⟩ := q
    have hl := h2.length
    refine ⟨"list", _, slot_list_getitem.lookup, h1.isList.typeIs, wpAny_getItem_list_slice h1.isList hs pl pu .none (by simp) ?_ (by rw [List.size_toArray, hl]; exact Nat.le_trans hz (by decide))⟩
    rw [pick_from _ _ h0]
    exact ⟨⟨_, _, rfl, none_at _, ⟨0, Heap.get?_push_size _ rfl⟩, (h2.drop _).push⟩, keeps_heap s _ _ push_new'⟩

theorem ev_neg {n : Int} {p : Pos} (h : Ev prog w K base d env ρ e (IsW (.int n))) : Ev prog w K base d env ρ (.UnaryOp .USub e p) (IsS (.int (-n))) := fun A Z s E W N => by
  refine wpAny_UnaryOp (wpAny_mono (h A Z s E W N) (fun v s₁ q => ?_) fun _ _ x => x)
  obtain ⟨u, rfl⟩ := rep_int q.1
  exact PySem.P.neg_int ⟨.int _ _, keeps_trans q.2 (keeps_tok s₁ _)⟩

/-! comparisons -/
noncomputable def CmpR (prog : Program) (w : World) (K : Frag) (base : Heap) (d : Nat) (op : CmpOp) (F1 F2 : List Addr → Heap → Heap → Value → Prop) (b : Bool) : Prop :=
  ∀ A Z s E x y h₀ h₁, Wd K base d A s.heap → F1 Z h₀ s.heap x → F2 Z h₁ s.heap y → ∀ Q : Value → Shared → Prop, (∀ s', Keep base s s' → Q (.bool b) s') → wpAny (model prog w) A (compareOp op x y) Q E s
theorem ev_cmp {op : CmpOp} {F1 F2 : List Addr → Heap → Heap → Value → Prop} {b : Bool} (hl : Ev prog w K base d env ρ l F1) (hr : Ev prog w K base d env ρ r F2) (h : CmpR prog w K base d op F1 F2 b) (g1 : Good F1)
    (hm : behindInMarks op r = false := by with_unfolding_all rfl) : Ev prog w K base d env ρ (.Compare l [op] [r] pos) (IsS (.bool b)) := fun A Z s E W N => by
  refine wpAny_Compare1 (hm := hm) (wpAny_mono (hl A Z s E W N) (fun x s₁ q₁ => ?_) fun _ _ x => x)
  obtain ⟨q1, k1⟩ := q₁
  refine wpAny_mono (hr A Z s₁ E (W.keeps (kext k1)) (N.keeps (kext k1))) (fun y s₂ q₂ => ?_) fun _ _ x => x
  obtain ⟨q2, k2⟩ := q₂
  have kk := keeps_trans k1 k2
  exact h A Z s₂ E x y _ _ (W.keeps (kext kk)) (g1.up q1 (kext k2)) q2 _ fun s' k' => ⟨.bool _, keeps_trans kk k'⟩
theorem tst_cmp {op : CmpOp} {F1 F2 : List Addr → Heap → Heap → Value → Prop} {b : Bool} (hl : Ev prog w K base d env ρ l F1) (hr : Ev prog w K base d env ρ r F2) (h : CmpR prog w K base d op F1 F2 b) (g1 : Good F1)
    (hm : behindInMarks op r = false := by with_unfolding_all rfl) : Tst prog w K base d env ρ (.Compare l [op] [r] pos) b := fun A Z s E W N => by
  refine wpAny_isTrue_Compare1 (hm := hm) (wpAny_mono (hl A Z s E W N) (fun x s₁ q₁ => ?_) fun _ _ x => x)
  obtain ⟨q1, k1⟩ := q₁
  refine wpAny_mono (hr A Z s₁ E (W.keeps (kext k1)) (N.keeps (kext k1))) (fun y s₂ q₂ => ?_) fun _ _ x => x
  obtain ⟨q2, k2⟩ := q₂
  have kk := keeps_trans k1 k2
  exact h A Z s₂ E x y _ _ (W.keeps (kext kk)) (g1.up q1 (kext k2)) q2 _ fun s' k' => wpAny_truthy_bool ⟨rfl, keeps_trans kk k'⟩
/-- a test that is no Not, BoolOp, IfExp, Compare -/
theorem tst_plain {b : Bool} (h : Ev prog w K base d env ρ e (IsW (.bool b))) (hp : isTrue e env (eval e env) = (do let v ← eval e env; standAt e.pos; holding [v] (truthy v)) := by rfl) : Tst prog w K base d env ρ e b := fun A Z s E W N => by
  rw [hp]
  refine wpAny_bind (wpAny_mono (h A Z s E W N) (fun v s₁ q => ?_) fun _ _ x => x)
  rw [rep_bool q.1]
  exact wpAny_bind (wpAny_standAt (wpAny_holding (wpAny_truthy_bool ⟨rfl, q.2⟩)))
theorem tst_and {l r : Expr} {a b : Bool} {p : Pos} (hl : Tst prog w K base d env ρ l a) (hr : a = true → Tst prog w K base d env ρ r b) : Tst prog w K base d env ρ (.BoolOp .And [l, r] p) (a && b) := fun A Z s E W N => by
  show wpAny _ _ (allTrue .And [l, r] env) _ _ _
  simp only [allTrue]
  refine wpAny_bind (wpAny_mono (hl A Z s E W N) (fun x s₁ q => ?_) fun _ _ x => x)
  obtain ⟨rfl, k1⟩ := q
  cases x with
  | false => exact wpAny_pure ⟨rfl, k1⟩
  | true =>
    refine wpAny_bind (wpAny_mono (hr rfl A Z s₁ E (W.keeps (kext k1)) (N.keeps (kext k1))) (fun y s₂ q₂ => ?_) fun _ _ x => x)
    obtain ⟨rfl, k2⟩ := q₂
    cases y with
    | false => exact wpAny_pure ⟨rfl, keeps_trans k1 k2⟩
    | true => exact wpAny_pure ⟨rfl, keeps_trans k1 k2⟩
theorem tst_or {l r : Expr} {a b : Bool} {p : Pos} (hl : Tst prog w K base d env ρ l a) (hr : a = false → Tst prog w K base d env ρ r b) : Tst prog w K base d env ρ (.BoolOp .Or [l, r] p) (a || b) := fun A Z s E W N => by
  show wpAny _ _ (allTrue .Or [l, r] env) _ _ _
  simp only [allTrue]
  refine wpAny_bind (wpAny_mono (hl A Z s E W N) (fun x s₁ q => ?_) fun _ _ x => x)
  obtain ⟨rfl, k1⟩ := q
  cases x with
  | true => exact wpAny_pure ⟨rfl, k1⟩
  | false =>
    refine wpAny_bind (wpAny_mono (hr rfl A Z s₁ E (W.keeps (kext k1)) (N.keeps (kext k1))) (fun y s₂ q₂ => ?_) fun _ _ x => x)
    obtain ⟨rfl, k2⟩ := q₂
    cases y with
    | true => exact wpAny_pure ⟨rfl, keeps_trans k1 k2⟩
    | false => exact wpAny_pure ⟨rfl, keeps_trans k1 k2⟩
theorem ev_ife {t b o : Expr} {p : Pos} {c : Bool} {x y : PyData} (ht : Tst prog w K base d env ρ t c) (hb : c = true → Ev prog w K base d env ρ b (IsS x)) (ho : c = false → Ev prog w K base d env ρ o (IsS y)) :
    Ev prog w K base d env ρ (.IfExp t b o p) (IsS (if c then x else y)) := fun A Z s E W N => by
  refine wpAny_IfExp (wpAny_mono (ht A Z s E W N) (fun c' s₁ q => ?_) fun _ _ x => x)
  obtain ⟨rfl, k1⟩ := q
  cases c' with
  | true => exact wpAny_mono (hb rfl A Z s₁ E (W.keeps (kext k1)) (N.keeps (kext k1))) (fun v s₂ q₂ => ⟨q₂.1, keeps_trans k1 q₂.2⟩) fun _ _ x => x
  | false => exact wpAny_mono (ho rfl A Z s₁ E (W.keeps (kext k1)) (N.keeps (kext k1))) (fun v s₂ q₂ => ⟨q₂.1, keeps_trans k1 q₂.2⟩) fun _ _ x => x

theorem cmp_eq {x y : PyData} (hx : OkD 9 x) (hy : OkD 9 y) : CmpR prog w K base d .Eq (IsW x) (IsW y) (PyData.eqv x y) := fun A Z s E a b _ _ W p q Q hQ => by
  obtain ⟨as, ra⟩ := p.reads; obtain ⟨bs, rb⟩ := q.reads
  have hu := W.units; have hs := W.small
  have hx2 := hx.2
  exact SeqAt.compareEq_reads ra rb hx.1 hy.1 (by show A.units + min x.depth y.depth < 9900; omega) (hQ s (keeps_refl s))
theorem cmp_ne {x y : PyData} (hx : OkD 9 x) (hy : OkD 9 y) : CmpR prog w K base d .NotEq (IsW x) (IsW y) (!PyData.eqv x y) := fun A Z s E a b _ _ W p q Q hQ => by
  obtain ⟨as, ra⟩ := p.reads; obtain ⟨bs, rb⟩ := q.reads
  have hu := W.units; have hs := W.small
  have hx2 := hx.2
  exact SeqAt.compareNe_reads ra rb hx.1 hy.1 (by show A.units + min x.depth y.depth < 9900; omega) (hQ s (keeps_refl s))
theorem cmp_in {x : PyData} {ys : List PyData} (hx : OkD 9 x) (hy : OkD 9 (.list ys)) : CmpR prog w K base d .In (IsW x) (IsW (.list ys)) (ys.any fun y => PyData.eqv y x) := fun A Z s E a b _ _ W p q Q hQ => by
  obtain ⟨as, ra⟩ := p.reads; obtain ⟨bs, rb⟩ := q.reads
  have hu := W.units; have hs := W.small
  have hx2 := hx.2
  exact SeqAt.in_list_reads rb ra hy.1 hx.1 (by show A.units + 1 + min _ x.depth < 9900; omega) (hQ s (keeps_refl s))
theorem cmp_notin {x : PyData} {ys : List PyData} (hx : OkD 9 x) (hy : OkD 9 (.list ys)) : CmpR prog w K base d .NotIn (IsW x) (IsW (.list ys)) (!ys.any fun y => PyData.eqv y x) := fun A Z s E a b _ _ W p q Q hQ => by
  obtain ⟨as, ra⟩ := p.reads; obtain ⟨bs, rb⟩ := q.reads
  have hu := W.units; have hs := W.small
  have hx2 := hx.2
  exact SeqAt.notIn_list_reads rb ra hy.1 hx.1 (by show A.units + 1 + min _ x.depth < 9900; omega) (hQ s (keeps_refl s))
theorem cmp_is_bool {x y : Bool} : CmpR prog w K base d .Is (IsW (.bool x)) (IsW (.bool y)) (x == y) := fun A Z s E a b _ _ W p q Q hQ => by
  rw [rep_bool p, rep_bool q]
  exact wpAny_is_plain (by cases x <;> cases y <;> rfl) (by
    have : ((Value.bool x == Value.bool y) = (x == y)) := by cases x <;> cases y <;> decide
    rw [this]; exact hQ s (keeps_refl s))
end
end Mine
end

section
open PySem PySem.W PyProof.Rows PySem.Calls
namespace Mine

/-! stores into a frame -/
structure Stored (env : Env) (xs : List Str) (h h' : Heap) : Prop where
  fw : Fw env h'
  other : ∀ y u, y ∉ xs → VarAt h env y u → VarAt h' env y u
  out : ∀ b o, b ∉ xs.map (slotOf env) → h.get? b = some o → h'.get? b = some o
  alive : ∀ b, (∃ o, h.get? b = some o) → ∃ o, h'.get? b = some o
  frames : FrOk h h'
theorem Stored.trans {env : Env} {xs ys : List Str} {h h' h'' : Heap} (a : Stored env xs h h') (b : Stored env ys h' h'') : Stored env (xs ++ ys) h h'' :=
  ⟨b.fw, fun y u hy v => b.other y u (fun m => hy (List.mem_append_right _ m)) (a.other y u (fun m => hy (List.mem_append_left _ m)) v), fun c o hc e => b.out c o (fun m => hc (by rw [List.map_append]; exact List.mem_append_right _ m)) (a.out c o (fun m => hc (by rw [List.map_append]; exact List.mem_append_left _ m)) e), fun c e => b.alive c (a.alive c e),
    a.frames.trans b.frames⟩
theorem Stored.ext {env : Env} {xs : List Str} {h h' h'' : Heap} (k : ∀ b o, h.get? b = some o → h'.get? b = some o) (b : Stored env xs h' h'') : Stored env xs h h'' :=
  ⟨b.fw, fun y u hy v => b.other y u hy (v.keeps (base := h) (.of' k)), fun c o hc e => b.out c o hc (k _ _ e), fun c ⟨o, e⟩ => b.alive c ⟨o, k _ _ e⟩, fun c o e q => b.frames c o (k _ _ e) q⟩

theorem funFrames_frames {h h' base : Heap} (k : FrOk h h') : ∀ {l : List Env}, h.FunFrames base l → h'.FunFrames base l
  | [], _ => trivial
  | env :: rest, ⟨hk, ⟨L, o, hf, hn, ho, hd⟩, hr⟩ => by
    obtain ⟨o', ho', hd', _⟩ := k L o ho hd
    exact ⟨hk, ⟨L, o', hf, hn, ho', hd'⟩, funFrames_frames k hr⟩
theorem frames_cls {h h' base : Heap} (k : FrOk h h') {l : List Env} (f : h.FunFrames base l) (g : ∀ a ∈ l.filterMap (·.frame), ∃ o, h.get? a = some o ∧ IsFr o) : ∀ a ∈ l.filterMap (·.frame), ∃ o, h'.get? a = some o ∧ IsFr o := fun a ha => by
  obtain ⟨o, e, c⟩ := g a ha
  obtain ⟨_, o', e', hd⟩ := f.mem ha
  rw [e] at e'; cases e'
  obtain ⟨o', q1, _, q3⟩ := k a o e hd
  exact ⟨o', q1, q3.trans c⟩

section
variable {prog : Program} {w : World} {A : Around} {E : Value → Shared → Prop} {s : Shared} {env : Env} {x : Str} {v : Value}
theorem store1 {Q : Unit → Shared → Prop} (F : Fw env s.heap) (hx : Storable env x) (h : ∀ h' tk, Stored env [x] s.heap h' → VarAt h' env x v → Q () { s with heap := h', toks := tk }) :
    wpAny (model prog w) A (storeName env x v) Q E s :=
  store_var F hx fun h' tk h1 h2 h3 h4 h5 _ h7 => h h' tk ⟨h1, fun y u hy V => h3 y u (fun e => hy (e ▸ .head _)) V, fun b o hb => h4 b o fun e => hb (e ▸ .head _), fun b ⟨o, e⟩ => by
    have := h5 b (by rw [e]; rfl)
    exact Option.isSome_iff_exists.mp this, h7⟩ h2
end

/-- the targets of an assignment: what it binds -/
noncomputable def AsgOk (prog : Program) (w : World) (env : Env) (target : Expr) (dd : PyData) (bs : List (Str × PyData)) : Prop :=
  ∀ A Z s E v (Q : Unit → Shared → Prop), A.handled = none → Fw env s.heap → (∀ a ∈ frameAddrs env, a ∈ Z) → Rep Z s.heap v dd →
    (∀ h' tk, Stored env (bs.map (·.1)) s.heap h' → (∀ x d, bs.lookup x = some d → ∃ u, VarAt h' env x u ∧ Rep Z h' u d) → Q () { s with heap := h', toks := tk }) →
    wpAny (model prog w) A (assign target env v) Q E s

section
variable {prog : Program} {w : World} {env : Env} {x y : Str} {p p1 p2 : Pos}
theorem asg_name {dd : PyData} (hx : Storable env x) : AsgOk prog w env (.Name x p) dd [(x, dd)] := fun A Z s E v Q hh F fz r k => by
  refine wpAny_assign_Name (store1 F hx fun h' tk S V => k h' tk S fun z d e => ?_)
  simp only [List.lookup_cons] at e
  split at e
  · rename_i hz
    cases e
    rw [beq_iff_eq.mp hz]
    exact ⟨v, V, r.mono (fun _ _ _ q => q) fun b o hb _ e => S.out b o (fun m => hb (by rw [List.mem_singleton.mp m]; exact fz _ (slot_mem hx))) e⟩
  · simp at e
theorem asg_pair {d1 d2 : PyData} {k : Nat} (hx : Storable env x) (hy : Storable env y) (hne : x ≠ y) : AsgOk prog w env (.Tuple [.Name x p1, .Name y p2] k p) (.tuple [d1, d2]) [(x, d1), (y, d2)] := fun A Z s E v Q hh F fz r kk => by
  cases r with
  | @tuple a vs _ ha ht hr =>
    cases hr with
    | @cons v1 _ _ _ r1 hr =>
      cases hr with
      | @cons v2 _ _ _ r2 hr =>
        cases hr
        obtain ⟨o, ho, hc, n, hd⟩ := ht
        refine wpAny_assign_Tuple (items := #[v1, v2]) hh ⟨o, ho, hc, n, hd⟩ rfl rfl fun h' he => ?_
        have k0 : ∀ b o, s.heap.get? b = some o → h'.get? b = some o := fun b o e => he b o (Nat.ne_of_lt (Heap.lt_size e)) e
        refine wpAny_assignInOrder_more ?_
        refine wpAny_assign_Name (store1 (F.keeps (base := s.heap) (.of' k0)) hx fun h1 t1 S1 V1 => ?_)
        refine wpAny_assignInOrder_more ?_
        refine wpAny_assign_Name (store1 S1.fw hy fun h2 t2 S2 V2 => ?_)
        refine wpAny_assignInOrder_none ?_
        have S : Stored env ([x] ++ [y]) s.heap h2 := (S1.trans S2).ext k0
        have k2 : ∀ b o, b ∉ Z → s.heap.get? b = some o → h2.get? b = some o := fun b o hb e => S.out b o (fun m => hb (by
          rcases List.mem_cons.mp m with e | m
          · rw [e]; exact fz _ (slot_mem hx)
          · rw [List.mem_singleton.mp m]; exact fz _ (slot_mem hy))) e
        refine kk h2 t2 S fun z d e => ?_
        simp only [List.lookup_cons] at e
        split at e
        · rename_i hz
          cases e
          rw [beq_iff_eq.mp hz]
          exact ⟨v1, S2.other x _ (by simpa using hne) V1, r1.mono (fun _ _ _ q => q) fun b o hb _ e => k2 b o hb e⟩
        · split at e
          · rename_i hz
            cases e
            rw [beq_iff_eq.mp hz]
            exact ⟨v2, V2, r2.mono (fun _ _ _ q => q) fun b o hb _ e => k2 b o hb e⟩
          · simp at e
end

/-! iteration -/
/-- an iterator that hands on no tuple of its own -/
noncomputable def PlainIter (o : Obj) : Prop := ∃ n, o.cls = .type n ∧ (["enumerate", "zip", "dict_itemiterator", "dict_reverseitemiterator", "odict_iterator", "itertools.zip_longest", "itertools.pairwise"] : List String).contains n = false
theorem letOwned {prog : Program} {w : World} {A : Around} {E : Value → Shared → Prop} {s : Shared} {target : Expr} {I : Addr} {v : Value} {o : Obj} {Q : Unit → Shared → Prop} (ho : s.heap.get? I = some o) (hp : PlainIter o) (h : Q () s) :
    wpAny (model prog w) A (letOwnedTupleGo target (.ref I) v) Q E s := by
  obtain ⟨n, hc, hn⟩ := hp
  have body : ∀ a : Addr, wpAny (model prog w) A (do
      let o ← load I
      match o.cls, o.data with
      | .type n, .fields vs =>
        if (["enumerate", "zip", "dict_itemiterator", "dict_reverseitemiterator", "odict_iterator", "itertools.zip_longest", "itertools.pairwise"] : List String).contains n && vs[0]? == some (rawInt a) then
          rule "for.unpacks-the-owned-tuple"
          updateField I 0 .none
      | _, _ => pure ()) Q E s := fun a => by
    refine wpAny_bind (wpAny_load ho ?_)
    rw [hc]
    split
    · rename_i n' vs e1 e2
      cases e1
      rw [hn, Bool.false_and, if_neg (by decide)]
      exact wpAny_pure h
    · exact wpAny_pure h
  cases target with
  | Tuple => cases v <;> first | exact wpAny_pure h | exact body _
  | List => cases v <;> first | exact wpAny_pure h | exact body _
  | _ => exact wpAny_pure h
noncomputable def EvIt (prog : Program) (w : World) (K : Frag) (base : Heap) (d : Nat) (env : Env) (ρ : List (Str × Bnd)) (e : Expr) (ds : List PyData) (fz : Bool) : Prop :=
  ∀ A Z s E (Q : Value → Shared → Prop), Wd K base d A s.heap → Nm Z env ρ s.heap →
    (∀ I fp wr P St s₂, Keep base s s₂ → Walks prog w A I fp wr ds.length P St → St 0 s₂.heap → (∀ b ∈ wr, s.heap.get? b = none) → (∀ b ∈ fp, ∃ o, s₂.heap.get? b = some o) → (fz = true → ∀ b ∈ fp, b ∉ Z) →
      (∀ i v, P i v → ∃ dd, ds[i]? = some dd ∧ Rep (wr ++ Z) s₂.heap v dd) → (I ∈ wr ∧ (∀ i h, St i h → ∀ b ∈ wr, ∃ o, h.get? b = some o ∧ PlainIter o) ∧ ∀ i h, St i h → ∀ b ∈ fp, ∀ o, h.get? b = some o → ¬ IsFr o) → Q (.ref I) s₂) →
    wpAny (model prog w) A (eval e env) (fun xv s₁ => wpAny (model prog w) A (pyIter xv) Q E s₁) E s

section
variable {prog : Program} {w : World} {K : Frag} {base : Heap} {d : Nat} {env : Env} {ρ : List (Str × Bnd)} {e : Expr} {pos : Pos}
theorem iter_list {A : Around} {Z : List Addr} {s s₁ : Shared} {E : Value → Shared → Prop} {Q : Value → Shared → Prop} {a : Addr} {vs : List Value} {ds : List PyData} {fz : Bool} (hh : A.handled = none) (kk : Keep base s s₁) (hl : s₁.heap.IsList a vs.toArray) (hr : RepAll Z s₁.heap vs ds)
    (al : ∀ a ∈ Z, ∃ o, s₁.heap.get? a = some o) (hz : fz = true → a ∉ Z)
    (k : ∀ I fp wr P St s₂, Keep base s s₂ → Walks prog w A I fp wr ds.length P St → St 0 s₂.heap → (∀ b ∈ wr, s.heap.get? b = none) → (∀ b ∈ fp, ∃ o, s₂.heap.get? b = some o) → (fz = true → ∀ b ∈ fp, b ∉ Z) →
      (∀ i v, P i v → ∃ dd, ds[i]? = some dd ∧ Rep (wr ++ Z) s₂.heap v dd) → (I ∈ wr ∧ (∀ i h, St i h → ∀ b ∈ wr, ∃ o, h.get? b = some o ∧ PlainIter o) ∧ ∀ i h, St i h → ∀ b ∈ fp, ∀ o, h.get? b = some o → ¬ IsFr o) → Q (.ref I) s₂) : wpAny (model prog w) A (pyIter (.ref a)) Q E s₁ := by
  refine wpAny_pyIter_list hl ?_
  have hlt : a < s₁.heap.objs.size := by obtain ⟨o, ho, _⟩ := hl; exact Heap.lt_size ho
  have W := Walks.list (prog := prog) (w := w) hh s₁.heap.objs.size a (Nat.ne_of_lt hlt) vs.toArray
  have hlen : vs.toArray.size = ds.length := by simp [hr.length]
  rw [hlen] at W
  refine k _ _ _ _ _ _ (keeps_trans kk (keeps_heap s₁ _ _ push_new')) W ⟨⟨_, Heap.get?_push_size _ rfl, rfl, rfl⟩, hl.push _⟩ ?_ ?_ ?_ ?_ ?_
  · intro b hb
    rw [List.mem_singleton.mp hb]
    exact none_of_ext (kext kk) (none_at _)
  · intro b hb
    rcases List.mem_cons.mp hb with rfl | hb
    · exact ⟨_, Heap.get?_push_size _ rfl⟩
    · rw [List.mem_singleton.mp hb]; obtain ⟨o, ho, _⟩ := hl; exact ⟨o, push_new' _ _ ho⟩
  · intro hf b hb
    rcases List.mem_cons.mp hb with rfl | hb
    · intro m; obtain ⟨o, q⟩ := al _ m; rw [none_at] at q; cases q
    · rw [List.mem_singleton.mp hb]; exact hz hf
  · intro i v hP
    obtain ⟨dd, h1, h2⟩ := hr.get' (k := i) (v := v) (by simpa using hP)
    refine ⟨dd, h1, h2.mono (fun b o e hb m => ?_) fun b o _ _ e => push_new' _ _ e⟩
    rcases List.mem_append.mp m with m | m
    · rw [List.mem_singleton.mp m, none_at] at e; cases e
    · exact hb m
  · refine ⟨.head _, ?_⟩
    refine ⟨?_, ?_⟩
    · rintro i h ⟨⟨o, ho, hc, _⟩, _⟩ b hb
      rw [List.mem_singleton.mp hb]; exact ⟨o, ho, _, hc, by decide⟩
    · rintro i h ⟨⟨o, ho, hc, _⟩, ⟨o', ho', hc', _⟩⟩ b hb x hx q
      rcases List.mem_cons.mp hb with rfl | hb
      · rw [ho] at hx; cases hx; exact absurd (hc.symm.trans q) (by decide)
      · rw [List.mem_singleton.mp hb, ho'] at hx; cases hx; exact absurd (hc'.symm.trans q) (by decide)
theorem it_S {ds : List PyData} {fz : Bool} (h : Ev prog w K base d env ρ e (IsS (.list ds))) : EvIt prog w K base d env ρ e ds fz := fun A Z s E Q W N k => by
  refine wpAny_mono (h A Z s E W N) (fun v s₁ q => ?_) fun _ _ x => x
  obtain ⟨r, kk⟩ := q
  cases r with
  | list ha hl hr => exact iter_list W.handled kk hl.isList hr (N.keeps (kext kk)).alive (fun _ => ha) k
theorem it_L {ds : List PyData} (h : Ev prog w K base d env ρ e (IsL ds)) : EvIt prog w K base d env ρ e ds false := fun A Z s E Q W N k => by
  refine wpAny_mono (h A Z s E W N) (fun v s₁ q => ?_) fun _ _ x => x
  obtain ⟨⟨a, vs, rfl, hl, hr⟩, kk⟩ := q
  exact iter_list W.handled kk hl.isList hr (N.keeps (kext kk)).alive (fun e => by cases e) k

theorem iter_range {A : Around} {Z : List Addr} {s s₁ : Shared} {E : Value → Shared → Prop} {Q : Value → Shared → Prop} {r : Addr} {a b c : Int} {t u v : Tok} {n : Nat} {fz : Bool} (hh : A.handled = none) (kk : Keep base s s₁) (hr : IsRange s₁.heap r a b c t u v)
    (hsmall : Builtin.Range.small a b c = true) (hn : Builtin.Range.rangeSize a b c = (n : Int)) (al : ∀ a ∈ Z, ∃ o, s₁.heap.get? a = some o)
    (k : ∀ I fp wr P St s₂, Keep base s s₂ → Walks prog w A I fp wr ((List.range n).map fun i : Nat => PyData.int (a + (i : Int) * c)).length P St → St 0 s₂.heap → (∀ b ∈ wr, s.heap.get? b = none) → (∀ b ∈ fp, ∃ o, s₂.heap.get? b = some o) → (fz = true → ∀ b ∈ fp, b ∉ Z) →
      (∀ i v, P i v → ∃ dd, ((List.range n).map fun i : Nat => PyData.int (a + (i : Int) * c))[i]? = some dd ∧ Rep (wr ++ Z) s₂.heap v dd) → (I ∈ wr ∧ (∀ i h, St i h → ∀ b ∈ wr, ∃ o, h.get? b = some o ∧ PlainIter o) ∧ ∀ i h, St i h → ∀ b ∈ fp, ∀ o, h.get? b = some o → ¬ IsFr o) → Q (.ref I) s₂) : wpAny (model prog w) A (pyIter (.ref r)) Q E s₁ := by
  refine wpAny_pyIter_range hr hsmall ?_
  have W0 := (Walks.range (prog := prog) (w := w) hh s₁.heap.objs.size a c n)
  have hlen : ((List.range n).map fun i : Nat => PyData.int (a + (i : Int) * c)).length = n := by simp
  have W1 : Walks prog w A s₁.heap.objs.size [s₁.heap.objs.size] [s₁.heap.objs.size] ((List.range n).map fun i : Nat => PyData.int (a + (i : Int) * c)).length (fun i v => i < n ∧ ∃ t, v = .int (a + i * c) t) (fun i h => IsRangeIter h s₁.heap.objs.size (a + (i : Nat) * c) ((n : Int) - (i : Nat)) c) := by
    rw [hlen]
    exact ⟨W0.sub, W0.frame, fun i s Q E hi st hQ => W0.item i s Q E hi st fun v h' tk hP => hQ v h' tk ⟨hi, hP⟩, W0.done, W0.self⟩
  refine k _ _ _ _ _ _ (keeps_trans kk (keeps_heap s₁ _ _ push_new')) W1 ?_ ?_ ?_ ?_ ?_ ?_
  · show IsRangeIter _ _ _ _ _
    rw [hn]; simpa using Heap.get?_push_size _ rfl
  · intro b hb
    rw [List.mem_singleton.mp hb]
    exact none_of_ext (kext kk) (none_at _)
  · intro b hb
    rw [List.mem_singleton.mp hb]
    exact ⟨_, Heap.get?_push_size _ rfl⟩
  · intro _ b hb m
    rw [List.mem_singleton.mp hb] at m
    obtain ⟨o, q⟩ := al _ m; rw [none_at] at q; cases q
  · rintro i v ⟨hi, t, rfl⟩
    exact ⟨_, by rw [List.getElem?_map, List.getElem?_range hi]; rfl, .int _ _⟩
  · refine ⟨.head _, ?_⟩
    refine ⟨?_, ?_⟩
    · intro i h st b hb
      rw [List.mem_singleton.mp hb]; exact ⟨_, st, _, rfl, by decide⟩
    · intro i h st b hb x hx q
      rw [List.mem_singleton.mp hb, show h.get? _ = some _ from st] at hx; cases hx; exact absurd (show Value.type "range_iterator" = Value.type "frame" from q) (by decide)

theorem it_range {x : Expr} {n : Int} {fz : Bool} {p : Pos} (hx : Ev prog w K base d env ρ x (IsW (.int n))) (h0 : 0 ≤ n) (hb : n ≤ 1000000)
    (hg : nsIn K mainGlobals "range" = some none) (hk : env.kindOf "range" = some .globalImplicit) (hs : starEach [x] env = [(false, eval x env)] := by rfl) :
    EvIt prog w K base d env ρ (.Call (.Name "range" p) [x] [] pos) ((List.range n.toNat).map fun i : Nat => PyData.int i) fz := fun A Z s E Q W N k => by
  refine Call_Name1 (hs := hs) (wpAny_mono (ev_builtin (p := p) hg (by decide +kernel : bootBuiltins "range" = some (.type "range")) hk (by decide) (by decide) A Z s E W N) (fun f s₁ q => ?_) fun _ _ x => x)
  obtain ⟨rfl, k1⟩ := q
  refine PySem.callWith_type1 (wpAny_mono (hx A Z s₁ E (W.keeps (kext k1)) (N.keeps (kext k1))) (fun v s₂ q₂ => ?_) fun _ _ x => x)
  obtain ⟨r2, k2⟩ := q₂
  obtain ⟨t, rfl⟩ := rep_int r2
  have k12 := keeps_trans k1 k2
  refine call_range_1 ?_
  have e : ((List.range n.toNat).map fun i : Nat => PyData.int i) = (List.range n.toNat).map fun i : Nat => PyData.int (0 + (i : Int) * 1) := by
    apply List.map_congr_left; intro i _; simp
  rw [e] at k
  have hsize : Builtin.Range.rangeSize 0 n 1 = (n.toNat : Int) := by rw [rangeSize_one]; split <;> (simp only [Int.toNat_of_nonneg h0]; omega)
  refine iter_range (n := n.toNat) W.handled (keeps_trans k12 (keeps_heap s₂ _ _ push_new')) (IsRange.new _ _ _ _ _ _ _) ?_ hsize (fun a ha => ?_) k
  · exact small_one (by omega) (by omega) (by omega) (by omega)
  · obtain ⟨o, q⟩ := N.alive a ha; obtain ⟨o, q⟩ := (kext k12).al (fun m => nomatch m) ⟨o, q⟩; exact ⟨o, push_new' _ _ q⟩
theorem it_range_down {x y z : Expr} {n : Int} {fz : Bool} {p : Pos} (hx : Ev prog w K base d env ρ x (IsW (.int n))) (hy : Ev prog w K base d env ρ y (IsW (.int (-1)))) (hz : Ev prog w K base d env ρ z (IsW (.int (-1)))) (h0 : 0 ≤ n) (hb : n ≤ 1000000)
    (hg : nsIn K mainGlobals "range" = some none) (hk : env.kindOf "range" = some .globalImplicit)
    (hs : backTo pos (starEach [x, y, z] env) = [(false, eval x env), (false, eval y env), (false, eval z env)] := by rfl) :
    EvIt prog w K base d env ρ (.Call (.Name "range" p) [x, y, z] [] pos) ((List.range (n.toNat + 1)).map fun i : Nat => PyData.int (n - i)) fz := fun A Z s E Q W N k => by
  refine Call_Name hs (wpAny_mono (ev_builtin (p := p) hg (by decide +kernel : bootBuiltins "range" = some (.type "range")) hk (by decide) (by decide) A Z s E W N) (fun f s₁ q => ?_) fun _ _ x => x)
  obtain ⟨rfl, k1⟩ := q
  refine PyProof.Rows.callWith_type rfl (evalArgs_plain (spliced_cons (wpAny_mono (hx A Z s₁ E (W.keeps (kext k1)) (N.keeps (kext k1))) (fun v s₂ q₂ => ?_) fun _ _ x => x)))
  obtain ⟨r2, k2⟩ := q₂
  obtain ⟨t, rfl⟩ := rep_int r2
  have k12 := keeps_trans k1 k2
  refine spliced_cons (wpAny_mono (hy A Z s₂ E (W.keeps (kext k12)) (N.keeps (kext k12))) (fun v s₃ q₃ => ?_) fun _ _ x => x)
  obtain ⟨r3, k3⟩ := q₃
  obtain ⟨t', rfl⟩ := rep_int r3
  have k13 := keeps_trans k12 k3
  refine spliced_cons (wpAny_mono (hz A Z s₃ E (W.keeps (kext k13)) (N.keeps (kext k13))) (fun v s₄ q₄ => ?_) fun _ _ x => x)
  obtain ⟨r4, k4⟩ := q₄
  obtain ⟨t'', rfl⟩ := rep_int r4
  have k14 := keeps_trans k13 k4
  refine spliced_nil (call_range_3 (by decide) ?_ (Or.inl (PyProof.noPylong_small (by decide))))
  have e : ((List.range (n.toNat + 1)).map fun i : Nat => PyData.int (n - i)) = (List.range (n.toNat + 1)).map fun i : Nat => PyData.int (n + (i : Int) * (-1)) := by
    apply List.map_congr_left; intro i _; congr 1; omega
  rw [e] at k
  have hsize : Builtin.Range.rangeSize n (-1) (-1) = ((n.toNat + 1 : Nat) : Int) := by unfold Builtin.Range.rangeSize; simp; omega
  refine iter_range (n := n.toNat + 1) W.handled (keeps_trans k14 (keeps_heap s₄ _ _ push_new')) (IsRange.new _ _ _ _ _ _ _) ?_ hsize (fun a ha => ?_) k
  · exact small_down (by omega) (by omega) (by omega) (by omega)
  · obtain ⟨o, q⟩ := N.alive a ha; obtain ⟨o, q⟩ := (kext k14).al (fun m => nomatch m) ⟨o, q⟩; exact ⟨o, push_new' _ _ q⟩
end
end Mine
end

section
open PySem PySem.W PyProof.Rows PySem.Calls
namespace Mine

/-! the closure of a comprehension -/
noncomputable def clGo (env : Env) : List (Str × NameKind) → List (Str × Addr) → List (Str × Addr)
  | [], acc => acc
  | (n, k) :: r, acc => if k == .free then clGo env r ((n, (env.cells.lookup n).getD 0) :: acc) else clGo env r acc
noncomputable def clOf (scope : Scope) (env : Env) : List (Str × Addr) := clGo env scope.names []
theorem clGo_is (env : Env) : ∀ (names : List (Str × NameKind)) (acc : List (Str × Addr)), (∀ n, (n, NameKind.free) ∈ names → ∃ c, env.cells.lookup n = some c) →
    (forIn names acc (fun (x : Str × NameKind) cs => if x.2 == NameKind.free then (do let a ← cellOf env x.1; pure (ForInStep.yield ((x.1, a) :: cs))) else pure (ForInStep.yield cs)) : Sem (List (Str × Addr))) = pure (clGo env names acc)
  | [], acc, _ => by rw [List.forIn_nil]; rfl
  | (n, k) :: r, acc, h => by
    rw [List.forIn_cons]
    unfold clGo
    by_cases hk : (k == NameKind.free) = true
    · have hk' : k = NameKind.free := eq_of_beq hk
      subst hk'
      obtain ⟨c, hc⟩ := h n (.head _)
      have e : cellOf env n = pure c := by unfold cellOf; rw [hc]
      simp only [beq_self_eq_true, if_true, e, pure_bind, hc, Option.getD_some]
      exact clGo_is env r _ fun m hm => h m (.tail _ hm)
    · rw [if_neg hk, if_neg hk, pure_bind]
      exact clGo_is env r _ fun m hm => h m (.tail _ hm)
theorem closureFor_is {scope : Scope} {env : Env} (h : ∀ n, (n, NameKind.free) ∈ scope.names → ∃ c, env.cells.lookup n = some c) : closureFor scope env = pure (clOf scope env) := by
  have t := clGo_is env scope.names [] h
  unfold closureFor clOf
  exact congrArg (fun t : Sem (List (Str × Addr)) => t >>= fun cs => pure cs) t
theorem clGo_mem (env : Env) : ∀ (names : List (Str × NameKind)) (acc : List (Str × Addr)), (∀ n, (n, NameKind.free) ∈ names → ∃ c, env.cells.lookup n = some c) → ∀ n c, (n, c) ∈ clGo env names acc → (n, c) ∈ acc ∨ ((n, NameKind.free) ∈ names ∧ env.cells.lookup n = some c)
  | [], acc, _, n, c, h => .inl h
  | (m, k) :: r, acc, hh, n, c, h => by
    unfold clGo at h
    have hr := fun x hx => hh x (.tail _ hx)
    split at h
    · rename_i hk
      have hk' : k = NameKind.free := eq_of_beq hk
      subst hk'
      rcases clGo_mem env r _ hr n c h with q | ⟨q1, q2⟩
      · rcases List.mem_cons.mp q with q | q
        · cases q
          obtain ⟨c, hc⟩ := hh _ (.head _)
          exact .inr ⟨.head _, by rw [hc]; rfl⟩
        · exact .inl q
      · exact .inr ⟨.tail _ q1, q2⟩
    · rcases clGo_mem env r _ hr n c h with q | ⟨q1, q2⟩
      · exact .inl q
      · exact .inr ⟨.tail _ q1, q2⟩
theorem clGo_has (env : Env) : ∀ (names : List (Str × NameKind)) (acc : List (Str × Addr)), ∀ n, (n, NameKind.free) ∈ names ∨ (∃ c, (n, c) ∈ acc) → ∃ c, (n, c) ∈ clGo env names acc
  | [], acc, n, h => by
    rcases h with h | h
    · cases h
    · exact h
  | (m, k) :: r, acc, n, h => by
    unfold clGo
    split
    · rename_i hk
      refine clGo_has env r _ n ?_
      rcases h with h | ⟨c, h⟩
      · rcases List.mem_cons.mp h with q | q
        · cases q; exact .inr ⟨_, .head _⟩
        · exact .inl q
      · exact .inr ⟨c, .tail _ h⟩
    · rename_i hk
      refine clGo_has env r _ n ?_
      rcases h with h | ⟨c, h⟩
      · rcases List.mem_cons.mp h with q | q
        · cases q; exact absurd rfl hk
        · exact .inl q
      · exact .inr ⟨c, h⟩
theorem clGo_nodup (env : Env) : ∀ (names : List (Str × NameKind)) (acc : List (Str × Addr)), (names.map (·.1)).Nodup → (acc.map (·.1)).Nodup → (∀ n ∈ acc.map (·.1), n ∉ names.map (·.1)) → ((clGo env names acc).map (·.1)).Nodup
  | [], acc, _, h, _ => h
  | (m, k) :: r, acc, h1, h2, h3 => by
    unfold clGo
    have h1' : m ∉ r.map (·.1) ∧ (r.map (·.1)).Nodup := by simpa using h1
    split
    · refine clGo_nodup env r _ h1'.2 ?_ ?_
      · rw [List.map_cons, List.nodup_cons]
        exact ⟨fun q => h3 m q (by simp), h2⟩
      · intro n hn
        rcases List.mem_cons.mp hn with q | q
        · rw [q]; exact h1'.1
        · exact fun w => h3 n q (.tail _ w)
    · exact clGo_nodup env r _ h1'.2 h2 fun n hn w => h3 n hn (.tail _ w)

theorem lookup_of_nodup {α : Type} : ∀ {l : List (Str × α)} {n : Str} {c : α}, (l.map (·.1)).Nodup → (n, c) ∈ l → l.lookup n = some c
  | (m, k) :: r, n, c, hd, h => by
    have hd' : m ∉ r.map (·.1) ∧ (r.map (·.1)).Nodup := by simpa using hd
    rw [List.lookup_cons]
    rcases List.mem_cons.mp h with q | q
    · cases q; simp
    · have : n ≠ m := fun e => hd'.1 (e ▸ List.mem_map.mpr ⟨_, q, rfl⟩)
      have hb : (n == m) = false := by simpa using this
      rw [hb]
      exact lookup_of_nodup hd'.2 q
theorem lookup_none_of {α : Type} : ∀ {l : List (Str × α)} {n : Str}, n ∉ l.map (·.1) → l.lookup n = none
  | [], n, _ => rfl
  | (m, k) :: r, n, h => by
    rw [List.lookup_cons]
    have : n ≠ m := fun e => h (by simp [e])
    have hb : (n == m) = false := by simpa using this
    rw [hb]
    exact lookup_none_of fun q => h (.tail _ q)

theorem cellsFrom_split : ∀ (names : List (Str × NameKind)) (n : Nat) (acc : List (Str × Addr)), cellsFrom n names acc = cellsFrom n names [] ++ acc
  | [], n, acc => by simp [cellsFrom]
  | (m, k) :: r, n, acc => by
    unfold cellsFrom
    split
    · rw [cellsFrom_split r (n + 1) ((m, n) :: acc), cellsFrom_split r (n + 1) [(m, n)]]
      simp
    · exact cellsFrom_split r n acc
theorem cellsFrom_names : ∀ (names : List (Str × NameKind)) (n : Nat) (x : Str) (c : Addr), (x, c) ∈ cellsFrom n names [] → (x, NameKind.cell) ∈ names
  | [], n, x, c, h => by simp [cellsFrom] at h
  | (m, k) :: r, n, x, c, h => by
    unfold cellsFrom at h
    split at h
    · rename_i hk
      have hk' : k = NameKind.cell := eq_of_beq hk
      subst hk'
      rw [cellsFrom_split] at h
      rcases List.mem_append.mp h with q | q
      · exact .tail _ (cellsFrom_names r _ x c q)
      · rw [List.mem_singleton] at q; cases q; exact .head _
    · exact .tail _ (cellsFrom_names r _ x c h)
theorem cellsFrom_has : ∀ (names : List (Str × NameKind)) (n : Nat) (x : Str), (x, NameKind.cell) ∈ names → ∃ c, (x, c) ∈ cellsFrom n names []
  | (m, k) :: r, n, x, h => by
    unfold cellsFrom
    rcases List.mem_cons.mp h with q | q
    · cases q
      simp only [beq_self_eq_true, if_true]
      rw [cellsFrom_split]
      exact ⟨n, List.mem_append_right _ (.head _)⟩
    · split
      · rw [cellsFrom_split]
        obtain ⟨c, hc⟩ := cellsFrom_has r (n + 1) x q
        exact ⟨c, List.mem_append_left _ hc⟩
      · exact cellsFrom_has r n x q

theorem lookup_relabel {scope : Scope} {env : Env} : ∀ {names : List (Str × NameKind)} {x : Str} {k : NameKind}, names.lookup x = some k →
    (names.map fun (n, k) => if (k == NameKind.free && env.scope.kind == .function && env.kindOf n == some .cell) then (n, NameKind.cell) else (n, k)).lookup x =
      some (if (k == NameKind.free && env.scope.kind == .function && env.kindOf x == some .cell) then NameKind.cell else k)
  | (n, k₀) :: r, x, k, h => by
    rw [List.lookup_cons] at h
    rw [List.map_cons]
    cases hx : x == n with
    | true =>
      rw [hx] at h
      cases h
      have e : x = n := eq_of_beq hx
      subst e
      dsimp only
      split
      · rename_i hc; rw [List.lookup_cons, beq_self_eq_true]
      · rename_i hc; rw [List.lookup_cons, beq_self_eq_true]
    | false =>
      rw [hx] at h
      have ih := lookup_relabel (scope := scope) (env := env) h
      dsimp only
      split
      · rw [List.lookup_cons, hx]; exact ih
      · rw [List.lookup_cons, hx]; exact ih
theorem lookup_relabel_inv {env : Env} : ∀ {names : List (Str × NameKind)} {x : Str} {k : NameKind},
    (names.map fun (n, k) => if (k == NameKind.free && env.scope.kind == .function && env.kindOf n == some .cell) then (n, NameKind.cell) else (n, k)).lookup x = some k → ∃ k₀, names.lookup x = some k₀ ∧ (k = k₀ ∨ (k₀ = .free ∧ k = .cell))
  | [], x, k, h => by simp at h
  | (n, k₀) :: r, x, k, h => by
    rw [List.map_cons] at h
    rw [List.lookup_cons]
    cases hx : x == n with
    | true =>
      refine ⟨k₀, rfl, ?_⟩
      dsimp only at h
      split at h
      · rename_i hc
        rw [List.lookup_cons, hx] at h
        cases h
        have : (k₀ == NameKind.free) = true := by
          cases hq : (k₀ == NameKind.free) with
          | true => rfl
          | false => rw [hq] at hc; simp at hc
        exact .inr ⟨eq_of_beq this, rfl⟩
      · rw [List.lookup_cons, hx] at h
        cases h
        exact .inl rfl
    | false =>
      dsimp only at h
      split at h
      · rw [List.lookup_cons, hx] at h; exact lookup_relabel_inv h
      · rw [List.lookup_cons, hx] at h; exact lookup_relabel_inv h

/-- the frame of a comprehension, its first address C -/
noncomputable abbrev cEnv (scope : Scope) (C : Addr) (env : Env) : Env := compEnvC scope (cellsFrom (C + 1) scope.names (clOf scope env)) C env
/-- its own addresses -/
noncomputable def cOwn (scope : Scope) (C : Addr) : List Addr := C :: (cellsFrom (C + 1) scope.names []).map (·.2)

structure ScopeOk (scope : Scope) (env : Env) : Prop where
  kind : scope.kind = .function
  nodup : (scope.names.map (·.1)).Nodup
  free : ∀ n, (n, NameKind.free) ∈ scope.names → env.kindOf n = some .cell ∨ env.kindOf n = some .free

noncomputable def capt (scope : Scope) (ρ : List (Str × Bnd)) : List (Str × Bnd) := ρ.filter fun p => scope.names.lookup p.1 == some .free
theorem lookup_capt {scope : Scope} : ∀ {ρ : List (Str × Bnd)} {x : Str} {b : Bnd}, (capt scope ρ).lookup x = some b → ρ.lookup x = some b ∧ scope.names.lookup x = some .free
  | [], x, b, h => by simp [capt] at h
  | (y, c) :: r, x, b, h => by
    unfold capt at h
    rw [List.filter_cons] at h
    split at h
    · rename_i hk
      rw [List.lookup_cons] at h ⊢
      cases hx : x == y with
      | true =>
        rw [hx] at h
        have e : x = y := eq_of_beq hx
        subst e
        exact ⟨h, eq_of_beq hk⟩
      | false => rw [hx] at h; exact lookup_capt h
    · rename_i hk
      have ih := lookup_capt (scope := scope) (ρ := r) h
      rw [List.lookup_cons]
      cases hx : x == y with
      | true =>
        have e : x = y := eq_of_beq hx
        subst e
        rw [ih.2] at hk
        exact absurd (by simp) hk
      | false => exact ih

section
variable {scope : Scope} {env : Env} {h₀ h : Heap} {C : Addr}

/-- the new frame is well formed -/
theorem cEnv_fw (S : ScopeOk scope env) (F : Fw env h₀) {base : Heap} (k : Hext base h₀ h) (hC : h₀.objs.size ≤ C) (ns : ∃ m, h.Ns C m) (ok : CellsOk h (C + 1) (cellsFrom (C + 1) scope.names [])) : Fw (cEnv scope C env) h := by
  have hfree : ∀ n, (n, NameKind.free) ∈ scope.names → ∃ c, env.cells.lookup n = some c := fun n hn => F.has n (S.free n hn)
  have hcl : ∀ n c, (n, c) ∈ clOf scope env → (n, c) ∈ env.cells ∧ (n, NameKind.free) ∈ scope.names := fun n c hm => by
    rcases clGo_mem env scope.names [] hfree n c hm with q | ⟨q1, q2⟩
    · cases q
    · exact ⟨mem_of_lookup q2, q1⟩
  have hclN : ((clOf scope env).map (·.1)).Nodup := clGo_nodup env scope.names [] S.nodup (by simp) (by simp)
  have old : ∀ n c, (n, c) ∈ clOf scope env → c < C := fun n c hm => by
    obtain ⟨v, o, ho, _⟩ := F.cells n c (hcl n c hm).1
    exact Nat.lt_of_lt_of_le (Heap.lt_size ho) hC
  have split := cellsFrom_split scope.names (C + 1) (clOf scope env)
  refine ⟨S.kind, F.glob, F.blt, ns, ?_, ?_, ?_, ?_⟩
  · intro n c hm
    change (n, c) ∈ cellsFrom (C + 1) scope.names (clOf scope env) at hm
    rw [split] at hm
    rcases List.mem_append.mp hm with q | q
    · exact ⟨_, (ok.empty n c q).1⟩
    · obtain ⟨v, hv⟩ := F.cells n c (hcl n c q).1
      exact ⟨v, k.cell (fun m => nomatch m) hv⟩
  · show (cellsFrom (C + 1) scope.names (clOf scope env)).Pairwise _
    rw [split]
    refine List.pairwise_append.mpr ⟨ok.apart, ?_, ?_⟩
    · refine List.Pairwise.imp_of_mem ?_ (List.pairwise_map.mp hclN)
      rintro ⟨n, c⟩ ⟨n', c'⟩ h1 h2 hne e
      dsimp only at e hne
      subst e
      exact hne (name_of_addr F.apart (hcl n c h1).1 (hcl n' c h2).1)
    · rintro ⟨n, c⟩ h1 ⟨n', c'⟩ h2 e
      dsimp only at e
      subst e
      exact absurd (old n' _ h2) (Nat.not_lt.mpr (Nat.le_of_succ_le (ok.empty n _ h1).2))
  · intro n c hm
    show c ≠ C
    change (n, c) ∈ cellsFrom (C + 1) scope.names (clOf scope env) at hm
    rw [split] at hm
    rcases List.mem_append.mp hm with q | q
    · exact Nat.ne_of_gt (ok.empty n c q).2
    · exact Nat.ne_of_lt (old n c q)
  · intro n hk
    change (relabel scope env).names.lookup n = some .cell ∨ (relabel scope env).names.lookup n = some .free at hk
    show ∃ c, (cellsFrom (C + 1) scope.names (clOf scope env)).lookup n = some c
    rw [split]
    have hin : ∃ c, (n, c) ∈ cellsFrom (C + 1) scope.names [] ++ clOf scope env := by
      obtain ⟨k', hk'⟩ : ∃ k', (relabel scope env).names.lookup n = some k' ∧ (k' = .cell ∨ k' = .free) := by
        rcases hk with q | q
        · exact ⟨_, q, .inl rfl⟩
        · exact ⟨_, q, .inr rfl⟩
      obtain ⟨k₀, h1, h2⟩ := lookup_relabel_inv hk'.1
      have hm := mem_of_lookup h1
      have : k₀ = .cell ∨ k₀ = .free := by
        rcases h2 with e | ⟨e, _⟩
        · rw [← e]; exact hk'.2
        · exact .inr e
      rcases this with e | e
      · subst e
        obtain ⟨c, hc⟩ := cellsFrom_has scope.names (C + 1) n hm
        exact ⟨c, List.mem_append_left _ hc⟩
      · subst e
        obtain ⟨c, hc⟩ := clGo_has env scope.names [] n (.inl hm)
        exact ⟨c, List.mem_append_right _ hc⟩
    obtain ⟨c, hc⟩ := hin
    cases q : (cellsFrom (C + 1) scope.names [] ++ clOf scope env).lookup n with
    | some c' => exact ⟨c', rfl⟩
    | none =>
      exfalso
      have := List.lookup_eq_none_iff.mp q (n, c) hc
      simp at this

/-- a captured name -/
theorem cEnv_var (S : ScopeOk scope env) (F : Fw env h₀) {base : Heap} (k : Hext base h₀ h) {x : Str} {v : Value} (V : VarAt h₀ env x v) (hx : scope.names.lookup x = some .free) : VarAt h (cEnv scope C env) x v := by
  have hfree : ∀ n, (n, NameKind.free) ∈ scope.names → ∃ c, env.cells.lookup n = some c := fun n hn => F.has n (S.free n hn)
  have hclN : ((clOf scope env).map (·.1)).Nodup := clGo_nodup env scope.names [] S.nodup (by simp) (by simp)
  have hm := mem_of_lookup hx
  have hkind := S.free x hm
  have hlk : (relabel scope env).names.lookup x = some (if (NameKind.free == NameKind.free && env.scope.kind == .function && env.kindOf x == some .cell) then NameKind.cell else .free) := lookup_relabel (scope := scope) (env := env) hx
  rcases V with ⟨h1, _⟩ | ⟨h1, c, h2, h3⟩
  · rcases hkind with e | e <;> rw [h1] at e <;> cases e
  · refine .inr ⟨?_, c, ?_, k.cell (fun m => nomatch m) h3⟩
    · rcases h1 with e | ⟨e, e'⟩
      · refine .inl (hlk.trans ?_)
        rw [F.kind, e]; rfl
      · refine .inr ⟨hlk.trans ?_, e'⟩
        rw [F.kind, e]; rfl
    · show (cellsFrom (C + 1) scope.names (clOf scope env)).lookup x = some c
      rw [cellsFrom_split, List.lookup_append]
      have hno : (cellsFrom (C + 1) scope.names []).lookup x = none := by
        refine lookup_none_of fun q => ?_
        obtain ⟨⟨n, c'⟩, hq, e⟩ := List.mem_map.mp q
        dsimp only at e
        subst e
        have h3 := lookup_of_nodup S.nodup (cellsFrom_names scope.names _ _ _ hq)
        rw [hx] at h3; cases h3
      rw [hno]
      obtain ⟨c', hc'⟩ := clGo_has env scope.names [] x (.inl hm)
      rcases clGo_mem env scope.names [] hfree x c' hc' with q | ⟨_, q⟩
      · cases q
      · rw [h2] at q; cases q
        exact lookup_of_nodup hclN hc'
theorem cEnv_addrs (S : ScopeOk scope env) (F : Fw env h₀) {Z : List Addr} (fz : ∀ a ∈ frameAddrs env, a ∈ Z) : ∀ a ∈ frameAddrs (cEnv scope C env), a ∈ cOwn scope C ∨ a ∈ Z := by
  have hfree : ∀ n, (n, NameKind.free) ∈ scope.names → ∃ c, env.cells.lookup n = some c := fun n hn => F.has n (S.free n hn)
  intro a ha
  rcases List.mem_cons.mp ha with e | ha
  · exact .inl (e ▸ .head _)
  · obtain ⟨⟨n, c⟩, hm, rfl⟩ := List.mem_map.mp ha
    change (n, c) ∈ cellsFrom (C + 1) scope.names (clOf scope env) at hm
    rw [cellsFrom_split] at hm
    rcases List.mem_append.mp hm with q | q
    · exact .inl (.tail _ (List.mem_map.mpr ⟨_, q, rfl⟩))
    · rcases clGo_mem env scope.names [] hfree n c q with q | ⟨_, q⟩
      · cases q
      · exact .inr (fz _ (.tail _ (List.mem_map.mpr ⟨_, mem_of_lookup q, rfl⟩)))
/-- a name that the comprehension binds -/
theorem cEnv_storable (S : ScopeOk scope env) {x : Str} (hx : scope.names.lookup x = some .local ∨ scope.names.lookup x = some .cell) : Storable (cEnv scope C env) x ∧ slotOf (cEnv scope C env) x ∈ cOwn scope C := by
  rcases hx with hx | hx
  · have hk : (cEnv scope C env).kindOf x = some .local := lookup_relabel (scope := scope) (env := env) hx
    refine ⟨.inl hk, ?_⟩
    unfold slotOf; rw [hk]; exact .head _
  · have hk : (cEnv scope C env).kindOf x = some .cell := lookup_relabel (scope := scope) (env := env) hx
    obtain ⟨c, hc⟩ := cellsFrom_has scope.names (C + 1) x (mem_of_lookup hx)
    have hl : ∃ c', (cEnv scope C env).cells.lookup x = some c' ∧ (x, c') ∈ cellsFrom (C + 1) scope.names [] := by
      show ∃ c', (cellsFrom (C + 1) scope.names (clOf scope env)).lookup x = some c' ∧ _
      rw [cellsFrom_split, List.lookup_append]
      cases q : (cellsFrom (C + 1) scope.names []).lookup x with
      | some c' => exact ⟨c', rfl, mem_of_lookup q⟩
      | none =>
        have := List.lookup_eq_none_iff.mp q (x, c) hc
        simp at this
    obtain ⟨c', h1, h2⟩ := hl
    refine ⟨.inr ⟨hk, c', h1⟩, ?_⟩
    unfold slotOf; rw [hk]
    dsimp only
    rw [h1]
    exact .tail _ (List.mem_map.mpr ⟨_, h2, rfl⟩)
end
end Mine
end

section
open PySem PySem.W PyProof.Rows PySem.Calls
namespace Mine

noncomputable abbrev fzs (βs : List (Str × PyData)) : List (Str × Bnd) := βs.map fun p => (p.1, Bnd.fz p.2)
theorem lookup_fzs : ∀ {βs : List (Str × PyData)} {x : Str}, (fzs βs).lookup x = (βs.lookup x).map Bnd.fz
  | [], x => rfl
  | (y, d) :: r, x => by
    simp only [fzs, List.map_cons, List.lookup_cons]
    cases x == y with
    | true => rfl
    | false => exact lookup_fzs

structure AccT where
  P : List Addr → Heap → List Value → List PyData → Prop
  mono : ∀ {Z Z' : List Addr} {h h' : Heap} {ys : List Value} {ds : List PyData}, (∀ b o, h.get? b = some o → b ∉ Z → b ∉ Z') → Kp Z h h' → P Z h ys ds → P Z' h' ys ds
  len : ∀ {Z h ys ds}, P Z h ys ds → ys.length = ds.length
noncomputable def accR : AccT := ⟨RepAll, fun a b c => c.mono a b, fun r => r.length⟩

structure LI (base : Heap) (Ac : AccT) (Z' : List Addr) (cenv : Env) (D : Addr) (βs : List (Str × PyData)) (h₀ : Heap) (outs : List PyData) (h : Heap) : Prop where
  fw : Fw cenv h
  bnd : ∀ x d, βs.lookup x = some d → ∃ u, VarAt h cenv x u ∧ Rep Z' h u d
  acc : ∃ ys : List Value, h.PlainList D ys.toArray ∧ Ac.P Z' h ys outs
  keep : Hext base h₀ h
  alive : ∀ a ∈ Z', ∃ o, h.get? a = some o

theorem LI.ext {base : Heap} {Ac : AccT} {Z' : List Addr} {cenv : Env} {D : Addr} {βs : List (Str × PyData)} {h₀ h h' : Heap} {outs : List PyData} (L : LI base Ac Z' cenv D βs h₀ outs h) (k : Hext base h h') : LI base Ac Z' cenv D βs h₀ outs h' :=
  ⟨L.fw.keeps k, fun x d e => let ⟨u, h1, h2⟩ := L.bnd x d e; ⟨u, h1.keeps k, h2.keeps k⟩, let ⟨ys, h1, h2⟩ := L.acc; ⟨ys, k.plain (fun m => nomatch m) h1, Ac.mono (fun _ _ _ q => q) (fun b o _ hc e => k.ex (fun m => nomatch m) hc e) h2⟩, hext_trans L.keep k,
    fun a ha => k.al (fun m => nomatch m) (L.alive a ha)⟩

/-- only addresses of wr have turned: they are no part of the frame, nor the list -/
theorem LI.next {base : Heap} {Ac : AccT} {Z' wr : List Addr} {cenv : Env} {D : Addr} {βs : List (Str × PyData)} {h₀ h h' : Heap} {outs : List PyData} (L : LI base Ac Z' cenv D βs h₀ outs h) (k : ∀ b o, b ∉ wr → h.get? b = some o → h'.get? b = some o)
    (hw : ∀ b ∈ wr, b ∈ Z' ∧ b ∉ frameAddrs cenv ∧ b ≠ D ∧ h₀.get? b = none) (al : ∀ b ∈ wr, ∃ o, h'.get? b = some o) : LI base Ac Z' cenv D βs h₀ outs h' := by
  have kf : ∀ a ∈ frameAddrs cenv, ∀ o, h.get? a = some o → h'.get? a = some o := fun a ha o e => k a o (fun m => (hw a m).2.1 ha) e
  have kz : ∀ b o, b ∉ Z' → h.get? b = some o → h'.get? b = some o := fun b o hb e => k b o (fun m => hb (hw b m).1) e
  have hcell : ∀ n c, (n, c) ∈ cenv.cells → c ∈ frameAddrs cenv := fun n c hm => .tail _ (List.mem_map.mpr ⟨_, hm, rfl⟩)
  have kv : ∀ x u, VarAt h cenv x u → VarAt h' cenv x u := fun x u V => by
    rcases V with ⟨h1, m, h2, h3⟩ | ⟨h1, c, h2, h3⟩
    · exact .inl ⟨h1, m, h2.at' fun o e => kf _ (.head _) o e, h3⟩
    · obtain ⟨o, ho, hd⟩ := h3
      exact .inr ⟨h1, c, h2, o, kf _ (hcell _ _ (mem_of_lookup h2)) o ho, hd⟩
  refine ⟨⟨L.fw.kind, L.fw.glob, L.fw.blt, let ⟨m, e⟩ := L.fw.ns; ⟨m, e.at' fun o q => kf _ (.head _) o q⟩, fun n c hm => ?_, L.fw.apart, L.fw.off, L.fw.has⟩, fun x d e => ?_, ?_, L.keep.trans (Hout.of (M := wr) k) fun x hx => .inr (hw x hx).2.2.2, fun a ha => ?_⟩
  · obtain ⟨v, o, ho, hd⟩ := L.fw.cells n c hm
    exact ⟨v, o, kf _ (hcell n c hm) o ho, hd⟩
  · obtain ⟨u, h1, h2⟩ := L.bnd x d e
    exact ⟨u, kv x u h1, h2.mono (fun _ _ _ q => q) (fun b o hb _ e => kz b o hb e)⟩
  · obtain ⟨ys, h1, h2⟩ := L.acc
    exact ⟨ys, h1.at fun o e => k _ o (fun m => (hw _ m).2.2.1 rfl) e, Ac.mono (fun _ _ _ q => q) (fun b o hb _ e => kz b o hb e) h2⟩
  · by_cases hm : a ∈ wr
    · exact al a hm
    · obtain ⟨o, e⟩ := L.alive a ha
      exact ⟨o, k a o hm e⟩

/-- an assignment in the frame -/
theorem LI.store {base : Heap} {Ac : AccT} {Z' : List Addr} {cenv : Env} {D : Addr} {βs bs : List (Str × PyData)} {h₀ h h' : Heap} {outs : List PyData} (L : LI base Ac Z' cenv D βs h₀ outs h) (S : Stored cenv (bs.map (·.1)) h h')
    (hb : ∀ x d, bs.lookup x = some d → ∃ u, VarAt h' cenv x u ∧ Rep Z' h' u d) (hs : ∀ a ∈ (bs.map (·.1)).map (slotOf cenv), a ∈ Z' ∧ a ≠ D ∧ h₀.get? a = none) : LI base Ac Z' cenv D (bs ++ βs) h₀ outs h' := by
  have kz : ∀ b o, b ∉ Z' → h.get? b = some o → h'.get? b = some o := fun b o hb e => S.out b o (fun m => hb (hs b m).1) e
  refine ⟨S.fw, fun x d e => ?_, ?_, L.keep.trans (Hout.of (M := (bs.map (·.1)).map (slotOf cenv)) S.out) fun x hx => .inr (hs x hx).2.2, fun a ha => S.alive a (L.alive a ha)⟩
  · rw [List.lookup_append] at e
    cases q : bs.lookup x with
    | some d' => rw [q] at e; cases e; exact hb x _ q
    | none =>
      rw [q] at e
      obtain ⟨u, h1, h2⟩ := L.bnd x d e
      refine ⟨u, S.other x u (fun m => ?_) h1, h2.mono (fun _ _ _ q => q) (fun b o hb _ e => kz b o hb e)⟩
      obtain ⟨p, hp, rfl⟩ := List.mem_map.mp m
      have := List.lookup_eq_none_iff.mp q p hp
      simp at this
  · obtain ⟨ys, h1, h2⟩ := L.acc
    exact ⟨ys, h1.at fun o e => S.out _ o (fun m => (hs _ m).2.1 rfl) e, Ac.mono (fun _ _ _ q => q) (fun b o hb _ e => kz b o hb e) h2⟩

/-- an item onto the list -/
theorem LI.app {base : Heap} {Ac : AccT} {Z' : List Addr} {cenv : Env} {D : Addr} {βs : List (Str × PyData)} {h₀ h h' : Heap} {outs : List PyData} {ys : List Value} {y : Value} {d : PyData} (L : LI base Ac Z' cenv D βs h₀ outs h) (hp : h'.PlainList D (ys ++ [y]).toArray) (hr : Ac.P Z' h (ys ++ [y]) (outs ++ [d])) (hs : Heap.SameBut D h h') (hD : D ∈ Z') (hDf : D ∉ frameAddrs cenv) (hD0 : h₀.get? D = none) : LI base Ac Z' cenv D βs h₀ (outs ++ [d]) h' := by
  have k : ∀ b o, b ∉ [D] → h.get? b = some o → h'.get? b = some o := fun b o hb e => hs.extBut b o (fun q => hb (q ▸ .head _)) e
  have kz : ∀ b o, b ∉ Z' → h.get? b = some o → h'.get? b = some o := fun b o hb e => hs.extBut b o (fun q => hb (q ▸ hD)) e
  have kf : ∀ a ∈ frameAddrs cenv, ∀ o, h.get? a = some o → h'.get? a = some o := fun a ha o e => hs.extBut a o (fun q => hDf (q ▸ ha)) e
  have hcell : ∀ n c, (n, c) ∈ cenv.cells → c ∈ frameAddrs cenv := fun n c hm => .tail _ (List.mem_map.mpr ⟨_, hm, rfl⟩)
  have kv : ∀ x u, VarAt h cenv x u → VarAt h' cenv x u := fun x u V => by
    rcases V with ⟨h1, m, h2, h3⟩ | ⟨h1, c, h2, h3⟩
    · exact .inl ⟨h1, m, h2.at' fun o e => kf _ (.head _) o e, h3⟩
    · obtain ⟨o, ho, hd⟩ := h3
      exact .inr ⟨h1, c, h2, o, kf _ (hcell _ _ (mem_of_lookup h2)) o ho, hd⟩
  refine ⟨⟨L.fw.kind, L.fw.glob, L.fw.blt, let ⟨m, e⟩ := L.fw.ns; ⟨m, e.at' fun o q => kf _ (.head _) o q⟩, fun n c hm => ?_, L.fw.apart, L.fw.off, L.fw.has⟩, fun x d e => ?_, ⟨ys ++ [y], hp, ?_⟩, L.keep.trans (Hout.of (M := [D]) k) fun x hx => .inr (by rw [List.mem_singleton.mp hx]; exact hD0), fun a ha => ?_⟩
  · obtain ⟨v, o, ho, hd⟩ := L.fw.cells n c hm
    exact ⟨v, o, kf _ (hcell n c hm) o ho, hd⟩
  · obtain ⟨u, h1, h2⟩ := L.bnd x d e
    exact ⟨u, kv x u h1, h2.mono (fun _ _ _ q => q) (fun b o hb _ e => kz b o hb e)⟩
  · exact Ac.mono (fun _ _ _ q => q) (fun b o hb _ e => kz b o hb e) hr
  · by_cases hm : a = D
    · obtain ⟨n, e⟩ := hp; exact ⟨_, hm ▸ e⟩
    · obtain ⟨o, e⟩ := L.alive a ha
      exact ⟨o, hs.extBut a o hm e⟩

theorem LI.nm {base : Heap} {Ac : AccT} {scope : Scope} {env : Env} {Z Z' : List Addr} {ρ : List (Str × Bnd)} {C D : Addr} {βs : List (Str × PyData)} {h₀ h : Heap} {outs : List PyData} (S : ScopeOk scope env) (N : Nm Z env ρ h₀) (L : LI base Ac Z' (cEnv scope C env) D βs h₀ outs h)
    (hz : ∀ a ∈ Z, a ∈ Z') (hc : ∀ a ∈ cOwn scope C, a ∈ Z') (hf : ∀ b o, h₀.get? b = some o → b ∉ Z → b ∉ Z') : Nm Z' (cEnv scope C env) (fzs βs ++ capt scope ρ) h := by
  refine ⟨L.fw, fun a ha => ?_, fun x b e => ?_, L.alive⟩
  · rcases cEnv_addrs S N.fw N.frameZ a ha with q | q
    · exact hc a q
    · exact hz a q
  · rw [List.lookup_append, lookup_fzs] at e
    cases q : βs.lookup x with
    | some d =>
      rw [q] at e; cases e
      obtain ⟨u, h1, h2⟩ := L.bnd x d q
      exact ⟨u, [], h1, ⟨rfl, h2⟩, fun _ m => nomatch m⟩
    | none =>
      rw [q] at e
      have e' : (capt scope ρ).lookup x = some b := e
      obtain ⟨e1, e2⟩ := lookup_capt e'
      obtain ⟨v, ft, h1, h2, h3⟩ := N.var x b e1
      exact ⟨v, ft, cEnv_var S N.fw L.keep h1 e2, h2.mono hf (fun b o _ hc e => L.keep.ex (fun m => nomatch m) hc e) fun a _ o hc e => L.keep.ex (fun m => nomatch m) hc e, fun a ha => hz a (h3 a ha)⟩

/-- all tests of a clause -/
noncomputable def Tsts (prog : Program) (w : World) (K : Frag) (base : Heap) (d : Nat) (env : Env) (ρ : List (Str × Bnd)) (ifs : List Expr) (b : Bool) : Prop :=
  ∀ A Z s E, Wd K base d A s.heap → Nm Z env ρ s.heap → wpAny (model prog w) A (forIn ifs true fun c r => if r = true then do let ok ← isTrue c env (eval c env); pure (ForInStep.yield ok) else pure (ForInStep.yield r)) (fun r s' => r = b ∧ Keep base s s') E s
theorem tsts_nil {prog : Program} {w : World} {K : Frag} {base : Heap} {d : Nat} {env : Env} {ρ : List (Str × Bnd)} : Tsts prog w K base d env ρ [] true := fun A Z s E W N => wpAny_tests_nil ⟨rfl, keeps_refl s⟩
theorem tsts_one {prog : Program} {w : World} {K : Frag} {base : Heap} {d : Nat} {env : Env} {ρ : List (Str × Bnd)} {e : Expr} {b : Bool} (h : Tst prog w K base d env ρ e b) : Tsts prog w K base d env ρ [e] b := fun A Z s E W N => wpAny_tests_one (h A Z s E W N)

section
variable {prog : Program} {w : World} {A : Around} {E : Value → Shared → Prop} {s : Shared}

/-- a new frame for a comprehension -/
theorem newEnv_comp {scope : Scope} {env : Env} {cl : List (Str × Addr)} {Q : Env → Shared → Prop}
    (hQ : Q { scope := scope, locals := s.heap.objs.size, globals := env.globals, cells := cellsFrom (s.heap.objs.size + 1) scope.names cl, qual := env.qual, func := none, code := env.code, frame := env.frame, builtins := env.builtins }
      { s with heap := pushCells (s.heap.push { cls := .type "dict", data := .dict #[] }) scope.names }) :
    wpAny (model prog w) A (newFunctionEnv scope env.globals cl [] env.qual none .none (some env)) Q E s := by
  simp only [newFunctionEnv, Option.isSome_some, if_true]
  refine wpAny_bind (wpAny_alloc ?_)
  refine wpAny_bind (wpAny_layCells _ (fun name kind cells => by cases hkc : kind == NameKind.cell <;> simp [hkc]) _ _ _ _ ?_)
  rw [show ({ s with heap := s.heap.push { cls := .type "dict", data := .dict #[] } } : Shared).heap.objs.size = s.heap.objs.size + 1 from Heap.size_push ..]
  exact wpAny_bind (wpAny_pure (wpAny_pure hQ))

end

/-- the turn of a clause's loop, what it does with an item that passes left open -/
noncomputable def TurnIs (prog : Program) (w : World) (A : Around) (it : Value) (target : Expr) (ifs : List Expr) (env : Env) (emit : Sem Unit) (c : Code) : Prop :=
  ∀ (R : Result → Shared → Prop) (I : Nat → Shared → Prop),
    (∀ n s, I n s → wpAny (model prog w) A (pyNext it) (fun r s₁ => match r with
      | none => R (.ok .next) s₁
      | some v => wpAny (model prog w) A (letOwnedTupleGo target it v) (fun _ s₁' => wpAny (model prog w) A (assign target env v) (fun _ s₂ =>
          wpAny (model prog w) A (forIn ifs true fun c r => if r = true then do let ok ← isTrue c env (eval c env); pure (ForInStep.yield ok) else pure (ForInStep.yield r)) (fun ok s₃ =>
            if ok = true then wpAny (model prog w) A emit (fun _ s₅ => ∃ m, m < n ∧ I m s₅) (notedBy (model prog w) A env fun e s' => R (.error e) s') s₃
            else ∃ m, m < n ∧ I m s₃) (notedBy (model prog w) A env fun e s' => R (.error e) s') s₂) (notedBy (model prog w) A env fun e s' => R (.error e) s') s₁') (notedBy (model prog w) A env fun e s' => R (.error e) s') s₁) (notedBy (model prog w) A env fun e s' => R (.error e) s') s) →
    ∀ n s, I n s → codeAny (model prog w) A c R s
theorem turn_one {prog : Program} {w : World} {A : Around} {elt target iter : Expr} {ifs : List Expr} {scope : Scope} {pos : Pos} {it acc : Value} {env : Env} :
    TurnIs prog w A it target ifs env (do let _ ← call (.builtin "list.append") [acc, ← eval elt env]) (.compLoop (.ListComp elt [⟨target, iter, ifs, 0⟩] scope pos) 0 it acc env) := by
  intro R I turn n s h
  refine codeAny_loop rfl I (fun n s hI => ?_) n h
  show wpAny _ A ((compTurn (.ListComp elt [⟨target, iter, ifs, 0⟩] scope pos) 0 it acc env).onRaise (fun x => do noteFrame x env; theTreesLotGoes x)) _ _ s
  refine wpAny_noted ?_
  rw [compTurn_list]
  refine wpAny_bind (wpAny_standAt (wpAny_bind (wpAny_mono (turn n s hI) (fun r s₁ h₁ => ?_) fun _ _ h' => h')))
  cases r with
  | none => exact wpAny_pure h₁
  | some v =>
    refine wpAny_bind (wpAny_mono h₁ (fun _ s₁' h₁' => ?_) fun _ _ h' => h')
    refine wpAny_bind (wpAny_mono h₁' (fun _ s₂ h₂ => wpAny_bind (wpAny_mono h₂ (fun ok s₃ h₃ => ?_) fun _ _ h' => h')) fun _ _ h' => h')
    cases ok with
    | false => exact wpAny_pure ⟨rfl, h₃⟩
    | true => exact wpAny_bind (wpAny_mono h₃ (fun _ s₅ h₅ => wpAny_pure ⟨rfl, h₅⟩) fun _ _ h' => h')

theorem compTurn_in (elt target iter : Expr) (ifs : List Expr) (g1 : Comprehension) (scope : Scope) (pos : Pos) (it acc : Value) (env : Env) :
    compTurn (.ListComp elt [g1, ⟨target, iter, ifs, 0⟩] scope pos) 1 it acc env = (do
      standAt iter.pos
      match ← pyNext it with
      | none => pure (.done .next)
      | some v =>
        letOwnedTupleGo target it v
        assign target env v
        let mut ok := true
        for c in ifs do
          if ok then ok ← isTrue c env (eval c env)
        if ok then
          (do let _ ← call (.builtin "list.append") [acc, ← eval elt env])
        again (.compLoop (.ListComp elt [g1, ⟨target, iter, ifs, 0⟩] scope pos) 1 it acc env)) := by rfl
theorem turn_in {prog : Program} {w : World} {A : Around} {elt target iter : Expr} {ifs : List Expr} {g1 : Comprehension} {scope : Scope} {pos : Pos} {it acc : Value} {env : Env} :
    TurnIs prog w A it target ifs env (do let _ ← call (.builtin "list.append") [acc, ← eval elt env]) (.compLoop (.ListComp elt [g1, ⟨target, iter, ifs, 0⟩] scope pos) 1 it acc env) := by
  intro R I turn n s h
  refine codeAny_loop rfl I (fun n s hI => ?_) n h
  show wpAny _ A ((compTurn (.ListComp elt [g1, ⟨target, iter, ifs, 0⟩] scope pos) 1 it acc env).onRaise (fun x => do noteFrame x env; theTreesLotGoes x)) _ _ s
  refine wpAny_noted ?_
  rw [compTurn_in]
  refine wpAny_bind (wpAny_standAt (wpAny_bind (wpAny_mono (turn n s hI) (fun r s₁ h₁ => ?_) fun _ _ h' => h')))
  cases r with
  | none => exact wpAny_pure h₁
  | some v =>
    refine wpAny_bind (wpAny_mono h₁ (fun _ s₁' h₁' => ?_) fun _ _ h' => h')
    refine wpAny_bind (wpAny_mono h₁' (fun _ s₂ h₂ => wpAny_bind (wpAny_mono h₂ (fun ok s₃ h₃ => ?_) fun _ _ h' => h')) fun _ _ h' => h')
    cases ok with
    | false => exact wpAny_pure ⟨rfl, h₃⟩
    | true => exact wpAny_bind (wpAny_mono h₃ (fun _ s₅ h₅ => wpAny_pure ⟨rfl, h₅⟩) fun _ _ h' => h')

theorem compTurn_out (elt target iter target2 iter2 : Expr) (ifs ifs2 : List Expr) (scope : Scope) (pos : Pos) (it acc : Value) (env : Env) :
    compTurn (.ListComp elt [⟨target, iter, ifs, 0⟩, ⟨target2, iter2, ifs2, 0⟩] scope pos) 0 it acc env = (do
      standAt iter.pos
      match ← pyNext it with
      | none => pure (.done .next)
      | some v =>
        letOwnedTupleGo target it v
        assign target env v
        let mut ok := true
        for c in ifs do
          if ok then ok ← isTrue c env (eval c env)
        if ok then
          let x ← eval iter2 env
          standAt iter2.pos
          let x ← foldedSetIterable iter2 env x
          let _ ← runOwn (.compStart (.ListComp elt [⟨target, iter, ifs, 0⟩, ⟨target2, iter2, ifs2, 0⟩] scope pos) 1 (← holding [x] (pyIter x)) acc env) env
        again (.compLoop (.ListComp elt [⟨target, iter, ifs, 0⟩, ⟨target2, iter2, ifs2, 0⟩] scope pos) 0 it acc env)) := by rfl
theorem turn_out {prog : Program} {w : World} {A : Around} {elt target iter target2 iter2 : Expr} {ifs ifs2 : List Expr} {scope : Scope} {pos : Pos} {it acc : Value} {env : Env} :
    TurnIs prog w A it target ifs env (do
            let x ← eval iter2 env
            standAt iter2.pos
            let x ← foldedSetIterable iter2 env x
            let _ ← runOwn (.compStart (.ListComp elt [⟨target, iter, ifs, 0⟩, ⟨target2, iter2, ifs2, 0⟩] scope pos) 1 (← holding [x] (pyIter x)) acc env) env)
      (.compLoop (.ListComp elt [⟨target, iter, ifs, 0⟩, ⟨target2, iter2, ifs2, 0⟩] scope pos) 0 it acc env) := by
  intro R I turn n s h
  refine codeAny_loop rfl I (fun n s hI => ?_) n h
  show wpAny _ A ((compTurn (.ListComp elt [⟨target, iter, ifs, 0⟩, ⟨target2, iter2, ifs2, 0⟩] scope pos) 0 it acc env).onRaise (fun x => do noteFrame x env; theTreesLotGoes x)) _ _ s
  refine wpAny_noted ?_
  rw [compTurn_out]
  refine wpAny_bind (wpAny_standAt (wpAny_bind (wpAny_mono (turn n s hI) (fun r s₁ h₁ => ?_) fun _ _ h' => h')))
  cases r with
  | none => exact wpAny_pure h₁
  | some v =>
    refine wpAny_bind (wpAny_mono h₁ (fun _ s₁' h₁' => ?_) fun _ _ h' => h')
    refine wpAny_bind (wpAny_mono h₁' (fun _ s₂ h₂ => wpAny_bind (wpAny_mono h₂ (fun ok s₃ h₃ => ?_) fun _ _ h' => h')) fun _ _ h' => h')
    cases ok with
    | false => exact wpAny_pure ⟨rfl, h₃⟩
    | true =>
      show wpAny _ _ (eval iter2 env >>= fun x => standAt iter2.pos >>= fun _ => foldedSetIterable iter2 env x >>= fun x => holding [x] (pyIter x) >>= fun y => runOwn (.compStart (.ListComp elt [⟨target, iter, ifs, 0⟩, ⟨target2, iter2, ifs2, 0⟩] scope pos) 1 y acc env) env >>= fun _ => again (.compLoop (.ListComp elt [⟨target, iter, ifs, 0⟩, ⟨target2, iter2, ifs2, 0⟩] scope pos) 0 it acc env)) _ _ _
      rw [show (eval iter2 env >>= fun x => standAt iter2.pos >>= fun _ => foldedSetIterable iter2 env x >>= fun x => holding [x] (pyIter x) >>= fun y => runOwn (.compStart (.ListComp elt [⟨target, iter, ifs, 0⟩, ⟨target2, iter2, ifs2, 0⟩] scope pos) 1 y acc env) env >>= fun _ => again (.compLoop (.ListComp elt [⟨target, iter, ifs, 0⟩, ⟨target2, iter2, ifs2, 0⟩] scope pos) 0 it acc env)) =
        ((eval iter2 env >>= fun x => standAt iter2.pos >>= fun _ => foldedSetIterable iter2 env x >>= fun x => holding [x] (pyIter x) >>= fun y => runOwn (.compStart (.ListComp elt [⟨target, iter, ifs, 0⟩, ⟨target2, iter2, ifs2, 0⟩] scope pos) 1 y acc env) env >>= fun _ => pure ()) >>= fun _ : Unit => again (.compLoop (.ListComp elt [⟨target, iter, ifs, 0⟩, ⟨target2, iter2, ifs2, 0⟩] scope pos) 0 it acc env)) from by simp only [bind_assoc, pure_bind]]
      exact wpAny_bind (wpAny_mono h₃ (fun _ s₅ h₅ => wpAny_pure ⟨rfl, h₅⟩) fun _ _ h' => h')

structure Turn (Z' : List Addr) (cenv : Env) (D : Addr) (h₀ : Heap) (fp wr : List Addr) : Prop where
  wrz : ∀ b ∈ wr, b ∈ Z' ∧ b ∉ frameAddrs cenv ∧ b ≠ D ∧ h₀.get? b = none
  Dz : D ∈ Z'
  Df : D ∉ frameAddrs cenv
  D0 : h₀.get? D = none
  Dfp : D ∉ fp

section
variable {prog : Program} {w : World} {K : Frag} {base : Heap} {dd : Nat} {A : Around} {scope : Scope} {env : Env} {Z Z' : List Addr} {ρ : List (Str × Bnd)} {C D : Addr} {βs : List (Str × PyData)} {s s₀ : Shared}

theorem LI.forget {base : Heap} {Ac : AccT} {βs bs : List (Str × PyData)} {cenv : Env} {h₀ h : Heap} {outs : List PyData} (L : LI base Ac Z' cenv D (bs ++ βs) h₀ outs h) (hd : ∀ x ∈ bs.map (·.1), βs.lookup x = none) : LI base Ac Z' cenv D βs h₀ outs h :=
  ⟨L.fw, fun x d e => L.bnd x d (by
    rw [List.lookup_append]
    cases q : bs.lookup x with
    | none => exact e
    | some d' =>
      have := hd x (List.mem_map.mpr ⟨_, PySem.mem_of_lookup q, rfl⟩)
      rw [this] at e; cases e), L.acc, L.keep, L.alive⟩
theorem LI.less {base : Heap} {Ac : AccT} {Zo : List Addr} {βs : List (Str × PyData)} {cenv : Env} {h₀ h : Heap} {outs : List PyData} (L : LI base Ac Z' cenv D βs h₀ outs h) (hz : ∀ a ∈ Zo, a ∈ Z') : LI base Ac Zo cenv D βs h₀ outs h :=
  ⟨L.fw, fun x d e => let ⟨u, h1, h2⟩ := L.bnd x d e; ⟨u, h1, h2.less hz⟩, let ⟨ys, h1, h2⟩ := L.acc; ⟨ys, h1, Ac.mono (fun _ _ _ q m => q (hz _ m)) (fun _ _ _ _ e => e) h2⟩, L.keep, fun a ha => L.alive a (hz a ha)⟩

/-- the run of one clause's loop -/
theorem loop_gen {Ac : AccT} {target : Expr} {ifs : List Expr} {emit : Sem Unit} {c : Code} {I : Addr} {fp wr : List Addr} {P : Nat → Value → Prop} {St : Nat → Heap → Prop} {ds : List PyData} {R : Result → Shared → Prop}
    {outs₀ : List PyData} (S : ScopeOk scope env) (N : Nm Z env ρ s₀.heap) (hz : ∀ a ∈ Z, a ∈ Z') (hc : ∀ a ∈ cOwn scope C, a ∈ Z' ∧ a ≠ D ∧ s₀.heap.get? a = none ∧ a ∉ fp) (hf : ∀ b o, s₀.heap.get? b = some o → b ∉ Z → b ∉ Z')
    (W₀ : ∀ h, Hext base s₀.heap h → Wd K base dd A h)
    (Wk : Walks prog w A I fp wr ds.length P St) (T : Turn Z' (cEnv scope C env) D s₀.heap fp wr) (hI : I ∈ wr ∧ (∀ i h, St i h → ∀ b ∈ wr, ∃ o, h.get? b = some o ∧ PlainIter o) ∧ ∀ i h, St i h → ∀ b ∈ fp, ∀ o, h.get? b = some o → ¬ IsFr o)
    (hcode : TurnIs prog w A (.ref I) target ifs (cEnv scope C env) emit c) (binds : PyData → List (Str × PyData)) (p : PyData → Bool) (f : PyData → List PyData)
    (hasg : ∀ d ∈ ds, AsgOk prog w (cEnv scope C env) target d (binds d)) (hslot : ∀ d ∈ ds, ∀ x ∈ (binds d).map (·.1), (scope.names.lookup x = some .local ∨ scope.names.lookup x = some .cell) ∧ βs.lookup x = none)
    (htst : ∀ d ∈ ds, Tsts prog w K base dd (cEnv scope C env) (fzs (binds d ++ βs) ++ capt scope ρ) ifs (p d))
    (B N' : Nat) (hf1 : ∀ d ∈ ds, (f d).length ≤ N')
    (hemit : ∀ d ∈ ds, p d = true → ∀ outs h tk E, outs.length ≤ B → LI base Ac Z' (cEnv scope C env) D (binds d ++ βs) s₀.heap outs h → Nm Z' (cEnv scope C env) (fzs (binds d ++ βs) ++ capt scope ρ) h →
      Hout base (D :: (wr ++ cOwn scope C)) s.heap h →
      wpAny (model prog w) A emit (fun _ s' => ∃ h' tk', s' = { s with heap := h', toks := tk' } ∧ LI base Ac Z' (cEnv scope C env) D (binds d ++ βs) s₀.heap (outs ++ f d) h' ∧ Hout base (D :: cOwn scope C) h h') E { s with heap := h, toks := tk })
    (hsz : outs₀.length + ds.length * N' ≤ B)
    (hP : ∀ i v, P i v → ∃ d, ds[i]? = some d ∧ ∀ h, Hout base (D :: (wr ++ cOwn scope C)) s.heap h → Rep Z' h v d)
    (st : St 0 s.heap) (L : LI base Ac Z' (cEnv scope C env) D βs s₀.heap outs₀ s.heap)
    (hR : ∀ h tk, Hout base (D :: (wr ++ cOwn scope C)) s.heap h →
      (∀ Zo, (∀ a ∈ Zo, a ∈ Z' ∧ a ∉ wr) → LI base Ac Zo (cEnv scope C env) D βs s₀.heap (outs₀ ++ (ds.filter p).flatMap f) h) → R (.ok .next) { s with heap := h, toks := tk }) :
    codeAny (model prog w) A c R s := by
  have kk : ∀ {i h}, St i h → ∀ {h'}, Hout base (D :: cOwn scope C) h h' → St i h' := fun st h' k =>
    Wk.frame _ _ _ st fun b hb o e => k.ex (fun m => (List.mem_cons.mp m).elim (fun q => T.Dfp (q ▸ hb)) fun m => (hc b m).2.2.2 hb) (hI.2.2 _ _ st b hb o e) e
  have lift : ∀ {h h'}, Hout base (D :: cOwn scope C) h h' → Hout base (D :: (wr ++ cOwn scope C)) h h' := fun k => k.less fun x hx => (List.mem_cons.mp hx).elim (fun q => q ▸ .head _) fun q => .tail _ (List.mem_append_right _ q)
  have app : ∀ {h h' h''}, Hout base (D :: (wr ++ cOwn scope C)) h h' → Hout base (D :: (wr ++ cOwn scope C)) h' h'' → Hout base (D :: (wr ++ cOwn scope C)) h h'' := fun a b => a.trans b fun _ h => .inl h
  refine hcode R (fun k s' => ∃ i h tk, s' = { s with heap := h, toks := tk } ∧ i ≤ ds.length ∧ k = ds.length + 1 - i ∧ St i h ∧ LI base Ac Z' (cEnv scope C env) D βs s₀.heap (outs₀ ++ ((ds.take i).filter p).flatMap f) h ∧
      Hout base (D :: (wr ++ cOwn scope C)) s.heap h) ?_ (ds.length + 1) s
    ⟨0, s.heap, s.toks, rfl, Nat.zero_le _, rfl, st, by simpa using L, .refl⟩
  rintro k s' ⟨i, h, tk, rfl, hi, rfl, st, L, kp⟩
  by_cases hlt : i < ds.length
  · refine Wk.item i _ _ _ hlt st fun v h1 tk1 hPv st1 k1 => ?_
    obtain ⟨d, hd, hrep⟩ := hP i v hPv
    have hdm : d ∈ ds := List.mem_of_getElem? hd
    have al1 := fun b hb => hI.2.1 (i + 1) h1 st1 b hb
    have L1 : LI base Ac Z' (cEnv scope C env) D βs s₀.heap _ h1 := L.next k1 T.wrz fun b hb => let ⟨o, e, _⟩ := al1 b hb; ⟨o, e⟩
    have kp1 : Hout base (D :: (wr ++ cOwn scope C)) s.heap h1 := app kp (Hout.of fun b o hb e => k1 b o (fun m => hb (.tail _ (List.mem_append_left _ m))) e)
    obtain ⟨oI, eI, pI⟩ := al1 I hI.1
    refine letOwned eI pI ?_
    have fz : ∀ a ∈ frameAddrs (cEnv scope C env), a ∈ Z' := fun a ha => (cEnv_addrs S N.fw N.frameZ a ha).elim (fun q => (hc a q).1) (hz a)
    have hA : A.handled = none := (W₀ h1 L1.keep).handled
    refine hasg d hdm A Z' _ _ v _ hA L1.fw fz (hrep h1 kp1) fun h2 tk2 S2 hb2 => ?_
    have hsl : ∀ a ∈ ((binds d).map (·.1)).map (slotOf (cEnv scope C env)), a ∈ cOwn scope C := fun a ha => by
      obtain ⟨x, hx, rfl⟩ := List.mem_map.mp ha
      exact (cEnv_storable S (hslot d hdm x hx).1).2
    have L2 : LI base Ac Z' (cEnv scope C env) D (binds d ++ βs) s₀.heap _ h2 := L1.store S2 hb2 fun a ha => let q := hc a (hsl a ha); ⟨q.1, q.2.1, q.2.2.1⟩
    have q12 : Hout base (D :: cOwn scope C) h1 h2 := Hout.of fun b o hb e => S2.out b o (fun m => hb (.tail _ (hsl b m))) e
    have st2 : St (i + 1) h2 := kk st1 q12
    have kp2 : Hout base (D :: (wr ++ cOwn scope C)) s.heap h2 := app kp1 (lift q12)
    have nm2 := L2.nm S N hz (fun a ha => (hc a ha).1) hf
    refine wpAny_mono (htst d hdm A Z' { s with heap := h2, toks := tk2 } _ (W₀ h2 L2.keep) nm2) (fun ok s3 q3 => ?_) fun _ _ x => x
    obtain ⟨rfl, h3, tk3, rfl, k3⟩ := q3
    have L3 := L2.ext k3
    have k3' : Hout base (D :: cOwn scope C) h2 h3 := k3.less fun _ m => nomatch m
    have st3 : St (i + 1) h3 := kk st2 k3'
    have kp3 := app kp2 (lift k3')
    have htake : ds.take (i + 1) = ds.take i ++ [d] := by rw [List.take_add_one, hd]; rfl
    cases hp : p d with
    | false =>
      simp only [Bool.false_eq_true, if_false]
      refine ⟨ds.length + 1 - (i + 1), by omega, i + 1, h3, tk3, rfl, hlt, rfl, st3, ?_, kp3⟩
      rw [htake, List.filter_append]
      have : List.filter p [d] = [] := by simp [hp]
      rw [this, List.append_nil]
      exact L3.forget fun x hx => (hslot d hdm x hx).2
    | true =>
      simp only [if_true]
      have nm3 := nm2.keeps k3
      have hlen : (outs₀ ++ ((ds.take i).filter p).flatMap f).length ≤ B := by
        rw [List.length_append]
        have h0 : (((ds.take i).filter p).flatMap f).length ≤ ((ds.take i).filter p).length * N' := by
          have : ∀ l : List PyData, (∀ d ∈ l, (f d).length ≤ N') → (l.flatMap f).length ≤ l.length * N' := by
            intro l hl
            induction l with
            | nil => simp
            | cons x l ih =>
              rw [List.flatMap_cons, List.length_append, List.length_cons, Nat.add_mul, Nat.one_mul, Nat.add_comm]
              exact Nat.add_le_add (ih fun d hd => hl d (.tail _ hd)) (hl x (.head _))
          refine this _ fun d hd => hf1 d ?_
          exact List.mem_of_mem_take (List.mem_filter.mp hd).1
        have h1 : ((ds.take i).filter p).length ≤ ds.length := Nat.le_trans (List.length_filter_le _ _) (by simp; omega)
        have h2 := Nat.mul_le_mul_right N' h1
        omega
      refine wpAny_mono (hemit d hdm hp _ h3 tk3 _ hlen L3 nm3 kp3) (fun _ s4 q4 => ?_) fun _ _ x => x
      obtain ⟨h4, tk4, rfl, L4, k4⟩ := q4
      refine ⟨ds.length + 1 - (i + 1), by omega, i + 1, h4, tk4, rfl, hlt, rfl, ?_, ?_, app kp3 (lift k4)⟩
      · exact kk st3 k4
      · rw [htake, List.filter_append]
        have e1 : List.filter p [d] = [d] := by simp [hp]
        rw [e1, List.flatMap_append, List.flatMap_singleton, ← List.append_assoc]
        exact L4.forget fun x hx => (hslot d hdm x hx).2
  · have hin : i = ds.length := by omega
    subst hin
    refine Wk.done _ _ _ st fun h1 tk1 k1 => ?_
    refine hR h1 tk1 (app kp (Hout.of fun b o hb e => k1 b o (fun m => hb (.tail _ (List.mem_append_left _ m))) e)) fun Zo hZo => ?_
    rw [List.take_length] at L
    have L' := L.less fun a ha => (hZo a ha).1
    have kf : ∀ a ∈ frameAddrs (cEnv scope C env), ∀ o, h.get? a = some o → h1.get? a = some o := fun a ha o e => k1 a o (fun m => (T.wrz a m).2.1 ha) e
    have hcell : ∀ n c, (n, c) ∈ (cEnv scope C env).cells → c ∈ frameAddrs (cEnv scope C env) := fun n c hm => .tail _ (List.mem_map.mpr ⟨_, hm, rfl⟩)
    have kz : ∀ b o, b ∉ Z' → h.get? b = some o → h1.get? b = some o := fun b o hb e => k1 b o (fun m => hb (T.wrz b m).1) e
    have hzz : ∀ b o, h.get? b = some o → b ∉ Z' → b ∉ Zo := fun b o _ hb m => hb (hZo b m).1
    refine ⟨⟨L.fw.kind, L.fw.glob, L.fw.blt, let ⟨m, e⟩ := L.fw.ns; ⟨m, e.at' fun o q => kf _ (.head _) o q⟩, fun n c hm => ?_, L.fw.apart, L.fw.off, L.fw.has⟩, fun x d e => ?_, ?_, L.keep.trans (Hout.of (M := wr) k1) fun x hx => .inr (T.wrz x hx).2.2.2, fun a ha => ?_⟩
    · obtain ⟨v, o, ho, hd⟩ := L.fw.cells n c hm
      exact ⟨v, o, kf _ (hcell n c hm) o ho, hd⟩
    · obtain ⟨u, V, r⟩ := L.bnd x d e
      refine ⟨u, ?_, r.mono hzz (fun b o hb _ e => kz b o hb e)⟩
      rcases V with ⟨q1, m, q2, q3⟩ | ⟨q1, c, q2, q3⟩
      · exact .inl ⟨q1, m, q2.at' fun o e => kf _ (.head _) o e, q3⟩
      · obtain ⟨o, ho, hd⟩ := q3
        exact .inr ⟨q1, c, q2, o, kf _ (hcell _ _ (mem_of_lookup q2)) o ho, hd⟩
    · obtain ⟨ys, q1, q2⟩ := L.acc
      exact ⟨ys, q1.at fun o e => k1 _ o (fun m => (T.wrz _ m).2.2.1 rfl) e, Ac.mono hzz (fun b o hb _ e => kz b o hb e) q2⟩
    · obtain ⟨o, e⟩ := L.alive a (hZo a ha).1
      exact ⟨o, k1 a o (hZo a ha).2 e⟩

/-- an element's value onto the list -/
theorem emit_gen {Ac : AccT} {F : List Addr → Heap → Heap → Value → Prop} {elt : Expr} {bs : List (Str × PyData)} {v : PyData} {wr fp : List Addr} (helt : Ev prog w K base dd (cEnv scope C env) (fzs bs ++ capt scope ρ) elt F) (hF : ∀ h h' ys outs y, Hext base s₀.heap h → Hext base h h' → (∀ a ∈ Z', ∃ o, h.get? a = some o) → F Z' h h' y → Ac.P Z' h ys outs → Ac.P Z' h' (ys ++ [y]) (outs ++ [v])) (W₀ : ∀ h, Hext base s₀.heap h → Wd K base dd A h)
    (T : Turn Z' (cEnv scope C env) D s₀.heap fp wr) {outs : List PyData} {h : Heap} {tk : Nat} {E : Value → Shared → Prop} (hsz : outs.length ≤ 2000000) (L : LI base Ac Z' (cEnv scope C env) D bs s₀.heap outs h) (nm : Nm Z' (cEnv scope C env) (fzs bs ++ capt scope ρ) h) :
    wpAny (model prog w) A (do let _ ← call (.builtin "list.append") [.ref D, ← eval elt (cEnv scope C env)]) (fun _ s' => ∃ h' tk', s' = { s with heap := h', toks := tk' } ∧ LI base Ac Z' (cEnv scope C env) D bs s₀.heap (outs ++ [v]) h' ∧ Hout base (D :: cOwn scope C) h h') E { s with heap := h, toks := tk } := by
  refine wpAny_bind (wpAny_mono (helt A Z' { s with heap := h, toks := tk } _ (W₀ h L.keep) nm) (fun y s4 q4 => ?_) fun _ _ x => x)
  obtain ⟨ry, h4, tk4, rfl, k4⟩ := q4
  have L4 := L.ext k4
  obtain ⟨ys, hys', rys'⟩ := L.acc
  have hys := k4.plain (fun m => nomatch m) hys'
  have rys := hF h h4 ys outs y L.keep k4 L.alive ry rys'
  have hlen := Ac.len rys'
  refine wpAny_bind (wpAny_list_append_plain hys (fun h5 hl5 hs5 => ?_) ?_)
  · exact wpAny_pure ⟨h5, tk4, rfl, LI.app L4 (by simpa using hl5) rys hs5 T.Dz T.Df T.D0, (k4.less fun _ m => nomatch m).trans (Hout.of (M := [D]) fun b o hb e => hs5.extBut b o (fun q => hb (q ▸ .head _)) e) fun x hx => .inl (by rw [List.mem_singleton.mp hx]; exact .head _)⟩
  · rw [List.size_toArray, hlen]
    exact Nat.le_trans hsz (by decide)
theorem emit_one {elt : Expr} {bs : List (Str × PyData)} {v : PyData} {wr fp : List Addr} (helt : Ev prog w K base dd (cEnv scope C env) (fzs bs ++ capt scope ρ) elt (IsS v)) (W₀ : ∀ h, Hext base s₀.heap h → Wd K base dd A h)
    (T : Turn Z' (cEnv scope C env) D s₀.heap fp wr) {outs : List PyData} {h : Heap} {tk : Nat} {E : Value → Shared → Prop} (hsz : outs.length ≤ 2000000) (L : LI base accR Z' (cEnv scope C env) D bs s₀.heap outs h) (nm : Nm Z' (cEnv scope C env) (fzs bs ++ capt scope ρ) h) :
    wpAny (model prog w) A (do let _ ← call (.builtin "list.append") [.ref D, ← eval elt (cEnv scope C env)]) (fun _ s' => ∃ h' tk', s' = { s with heap := h', toks := tk' } ∧ LI base accR Z' (cEnv scope C env) D bs s₀.heap (outs ++ [v]) h' ∧ Hout base (D :: cOwn scope C) h h') E { s with heap := h, toks := tk } :=
  emit_gen helt (fun h h' ys outs y _ k _ q r => RepAll.append (RepAll.keeps r k) (.one q)) W₀ T hsz L nm
end
end Mine
end

section
open PySem PySem.W PyProof.Rows PySem.Calls
namespace Mine

section
variable {prog : Program} {w : World} {K : Frag} {base : Heap} {dd : Nat} {A : Around} {scope : Scope} {env : Env} {Z : List Addr} {ρ : List (Str × Bnd)} {s : Shared} {E : Value → Shared → Prop}

/-- what is laid for a comprehension, from the iterator on -/
structure Laid1 (scope : Scope) (env : Env) (Z wr fp : List Addr) (h₀ h₂ : Heap) (D C : Addr) (H : Heap) : Prop where
  hD : D = h₂.objs.size
  hC : C = h₂.objs.size + 1
  ext : ∀ b o, h₂.get? b = some o → H.get? b = some o
  list : H.PlainList D #[]
  fw : Fw (cEnv scope C env) H
  own : ∀ a ∈ cOwn scope C, h₂.objs.size < a ∧ ∃ o, H.get? a = some o

theorem laid1 {wr fp : List Addr} {h₂ : Heap} (S : ScopeOk scope env) (F : Fw env h₂) :
    Laid1 scope env Z wr fp s.heap h₂ h₂.objs.size (h₂.objs.size + 1) (pushCells ((h₂.push { cls := .type "list", data := .seq ([] : List Value).toArray }).push { cls := .type "dict", data := .dict #[] }) scope.names) := by
  have k1 : ∀ b o, h₂.get? b = some o → Heap.get? ((h₂.push { cls := .type "list", data := .seq ([] : List Value).toArray }).push { cls := .type "dict", data := .dict #[] }) b = some o := fun b o e => Heap.get?_push_of_some _ (Heap.get?_push_of_some _ e)
  have sz : ((h₂.push { cls := .type "list", data := .seq ([] : List Value).toArray }).push { cls := .type "dict", data := .dict #[] }).objs.size = h₂.objs.size + 1 + 1 := by rw [Heap.size_push, Heap.size_push]
  have ok := cellsFrom_ok scope.names ((h₂.push { cls := .type "list", data := .seq ([] : List Value).toArray }).push { cls := .type "dict", data := .dict #[] }) (h₂.objs.size + 1 + 1) [] ⟨fun _ _ hm => (nomatch hm), List.Pairwise.nil⟩ (by rw [sz]; exact Nat.le_refl _)
  rw [sz] at ok
  have k2 : ∀ b o, h₂.get? b = some o → Heap.get? (pushCells ((h₂.push { cls := .type "list", data := .seq ([] : List Value).toArray }).push { cls := .type "dict", data := .dict #[] }) scope.names) b = some o := fun b o e => pushCells_keeps _ _ b o (k1 b o e)
  have ns : (pushCells ((h₂.push { cls := .type "list", data := .seq ([] : List Value).toArray }).push { cls := .type "dict", data := .dict #[] }) scope.names).Ns (h₂.objs.size + 1) (fun _ => none) := by
    have := Heap.Ns.new (h₂.push { cls := .type "list", data := .seq ([] : List Value).toArray }) (.type "dict")
    rw [Heap.size_push] at this
    exact this.keeps (pushCells_keeps _ _)
  refine ⟨rfl, rfl, k2, ?_, ?_, ?_⟩
  · exact ⟨0, pushCells_keeps _ _ _ _ (Heap.get?_push_of_some _ (Heap.get?_push_size _ rfl))⟩
  · exact cEnv_fw S F (base := h₂) (.of' k2) (Nat.le_succ _) ⟨_, ns⟩ ok
  · intro a ha
    rcases List.mem_cons.mp ha with rfl | ha
    · refine ⟨Nat.lt_succ_self _, ?_⟩
      obtain ⟨o, _, _, ho, _⟩ := ns
      exact ⟨o, ho⟩
    · obtain ⟨⟨n, c⟩, hm, rfl⟩ := List.mem_map.mp ha
      obtain ⟨⟨o, ho, _⟩, hlo⟩ := ok.empty n c hm
      exact ⟨Nat.lt_of_lt_of_le (Nat.lt_succ_of_lt (Nat.lt_succ_self _)) hlo, o, ho⟩


structure CompAt (K : Frag) (base : Heap) (dd : Nat) (A : Around) (scope : Scope) (env : Env) (ρ : List (Str × Bnd)) (Z : List Addr) (h₀ : Heap) (C D : Addr) (Z' : List Addr) : Prop where
  S : ScopeOk scope env
  N : Nm Z env ρ h₀
  hz : ∀ a ∈ Z, a ∈ Z'
  hc : ∀ a ∈ cOwn scope C, a ∈ Z' ∧ a ≠ D ∧ h₀.get? a = none
  hf : ∀ b o, h₀.get? b = some o → b ∉ Z → b ∉ Z'
  W : ∀ h, Hext base h₀ h → Wd K base dd A h
  Dz : D ∈ Z'
  Df : D ∉ frameAddrs (cEnv scope C env)
  D0 : h₀.get? D = none

/-- what is done with an item that passes: v comes onto the list -/
noncomputable def EmitOk (Ac : Heap → AccT) (prog : Program) (w : World) (K : Frag) (base : Heap) (dd : Nat) (scope : Scope) (env : Env) (ρ : List (Str × Bnd)) (emit : Value → Env → Sem Unit) (bs : List (Str × PyData)) (v : List PyData) : Prop :=
  ∀ A Z (s : Shared) h₀ C D Z' outs h tk E, CompAt K base dd A scope env ρ Z h₀ C D Z' → outs.length ≤ 1000000 → LI base (Ac h₀) Z' (cEnv scope C env) D bs h₀ outs h → Nm Z' (cEnv scope C env) (fzs bs ++ capt scope ρ) h →
    wpAny (model prog w) A (emit (.ref D) (cEnv scope C env)) (fun _ s' => ∃ h' tk', s' = { s with heap := h', toks := tk' } ∧ LI base (Ac h₀) Z' (cEnv scope C env) D bs h₀ (outs ++ v) h' ∧ Hout base (D :: cOwn scope C) h h') E { s with heap := h, toks := tk }

theorem emitOk_one {elt : Expr} {bs : List (Str × PyData)} {v : PyData} (helt : ∀ C, Ev prog w K base dd (cEnv scope C env) (fzs bs ++ capt scope ρ) elt (IsS v)) :
    EmitOk (fun _ => accR) prog w K base dd scope env ρ (fun acc cenv => do let _ ← call (.builtin "list.append") [acc, ← eval elt cenv]) bs [v] := fun A Z s h₀ C D Z' outs h tk E G hsz L nm => by
  exact emit_one (s := s) (s₀ := { s with heap := h₀ }) (fp := []) (wr := []) (helt C) G.W ⟨fun _ m => (nomatch m), G.Dz, G.Df, G.D0, fun m => (nomatch m)⟩ (Nat.le_trans hsz (by decide)) L nm

theorem LI.grow {base : Heap} {Ac : AccT} {Z' wr : List Addr} {cenv : Env} {D : Addr} {βs : List (Str × PyData)} {h₀ h h' : Heap} {outs : List PyData} (L : LI base Ac Z' cenv D βs h₀ outs h) (k : Hext base h h') (hw : ∀ b ∈ wr, h.get? b = none) (al : ∀ b ∈ wr, ∃ o, h'.get? b = some o) : LI base Ac (wr ++ Z') cenv D βs h₀ outs h' := by
  have hz : ∀ b o, h.get? b = some o → b ∉ Z' → b ∉ wr ++ Z' := fun b o e hb m => by
    rcases List.mem_append.mp m with q | q
    · rw [hw b q] at e; cases e
    · exact hb q
  refine ⟨L.fw.keeps k, fun x d e => let ⟨u, h1, h2⟩ := L.bnd x d e; ⟨u, h1.keeps k, h2.mono hz fun b o _ hc e => k.ex (fun m => nomatch m) hc e⟩, let ⟨ys, h1, h2⟩ := L.acc; ⟨ys, k.plain (fun m => nomatch m) h1, Ac.mono hz (fun b o _ hc e => k.ex (fun m => nomatch m) hc e) h2⟩, hext_trans L.keep k, fun a ha => ?_⟩
  rcases List.mem_append.mp ha with q | q
  · exact al a q
  · exact k.al (fun m => nomatch m) (L.alive a q)

theorem compStart_in {elt : Expr} {g1 g2 : Comprehension} {pos : Pos} {it acc : Value} {cenv : Env} {R : Result → Shared → Prop} (hg : g2.is_async = 0)
    (h0 : codeAny (model prog w) A (.compLoop (.ListComp elt [g1, g2] scope pos) 1 it acc cenv) R s)
    (h : wpAny (model prog w) A (pyIter it) (fun it' s' => codeAny (model prog w) A (.compLoop (.ListComp elt [g1, g2] scope pos) 1 it' acc cenv) R s') (notedBy (model prog w) A cenv fun x s' => R (.error x) s') s) :
    codeAny (model prog w) A (.compStart (.ListComp elt [g1, g2] scope pos) 1 it acc cenv) R s := by
  refine codeAny_of_tree ?_
  show wpAny _ _ ((compStart (.ListComp elt [g1, g2] scope pos) 1 it acc cenv).onRaise (fun x => do noteFrame x cenv; standAt theWindowsPlace)) _ _ s
  refine wpAny_notedAt ?_
  have e : compStart (.ListComp elt [g1, g2] scope pos) 1 it acc cenv = (do
      if (← ask).params.followText "comprehension-iter-twice" then return ← again (.compLoop (.ListComp elt [g1, g2] scope pos) 1 it acc cenv)
      rule "comprehension.iter-twice"
      standAt g2.iter.pos
      again (.compLoop (.ListComp elt [g1, g2] scope pos) 1 (← pyIter it) acc cenv)) := by
    obtain ⟨a, b, c, x⟩ := g2
    simp only at hg; subst hg; rfl
  rw [e]
  refine wpAny_bind (wpAny_askSetting (wpAny_ite ?_))
  split
  · exact wpAny_bind (wpAny_pure (wpAny_pure ⟨rfl, h0⟩))
  · exact wpAny_bind (wpAny_rule (wpAny_bind (wpAny_standAt (wpAny_bind (wpAny_mono h (fun it' s' h' => wpAny_pure ⟨rfl, h'⟩) fun _ _ x => x)))))

theorem emitOk_in {elt target2 iter2 : Expr} {ifs2 : List Expr} {g1 : Comprehension} {pos : Pos} {bs : List (Str × PyData)} {ds : List PyData}
    (binds : PyData → List (Str × PyData)) (p : PyData → Bool) (f : PyData → PyData)
    (hit : ∀ C, EvIt prog w K base dd (cEnv scope C env) (fzs bs ++ capt scope ρ) iter2 ds true)
    (hasg : ∀ C, ∀ d ∈ ds, AsgOk prog w (cEnv scope C env) target2 d (binds d)) (hslot : ∀ d ∈ ds, ∀ x ∈ (binds d).map (·.1), (scope.names.lookup x = some .local ∨ scope.names.lookup x = some .cell) ∧ bs.lookup x = none)
    (htst : ∀ C, ∀ d ∈ ds, Tsts prog w K base dd (cEnv scope C env) (fzs (binds d ++ bs) ++ capt scope ρ) ifs2 (p d))
    (helt : ∀ C, ∀ d ∈ ds, p d = true → Ev prog w K base dd (cEnv scope C env) (fzs (binds d ++ bs) ++ capt scope ρ) elt (IsS (f d)))
    (hsz : ds.length ≤ 1000) (hs : ∀ env x, foldedSetIterable iter2 env x = pure x := by intro _ _; rfl) :
    EmitOk (fun _ => accR) prog w K base dd scope env ρ (fun acc cenv => do
            let x ← eval iter2 cenv
            standAt iter2.pos
            let x ← foldedSetIterable iter2 cenv x
            let _ ← runOwn (.compStart (.ListComp elt [g1, ⟨target2, iter2, ifs2, 0⟩] scope pos) 1 (← holding [x] (pyIter x)) acc cenv) cenv) bs ((ds.filter p).map f) := fun A Z s h₀ C D Z' outs h tk E G hol L nm => by
  dsimp only
  have go := hit C A Z' { s with heap := h, toks := tk } E (fun it s₂ => wpAny (model prog w) A (runOwn (.compStart (.ListComp elt [g1, ⟨target2, iter2, ifs2, 0⟩] scope pos) 1 it (.ref D) (cEnv scope C env)) (cEnv scope C env)) (fun _ s' => ∃ h' tk', s' = { s with heap := h', toks := tk' } ∧ LI base accR Z' (cEnv scope C env) D bs h₀ (outs ++ (ds.filter p).map f) h' ∧ Hout base (D :: cOwn scope C) h h') E s₂)
    (G.W h L.keep) nm (fun I fp wr P St s₂ kk Wk st hwr hfp hfz hP hI => ?_)
  · refine wpAny_bind (wpAny_mono go (fun x s₁ h₁ => ?_) fun _ _ x => x)
    refine wpAny_bind (wpAny_standAt (wpAny_bind (wpAny_of_eq (hs _ _) (wpAny_bind (wpAny_holding (wpAny_mono h₁ (fun it s₂ h₂ => ?_) fun _ _ x => x))))))
    exact wpAny_bind (wpAny_mono h₂ (fun _ s₃ h₃ => wpAny_pure h₃) fun _ _ x => x)
  · obtain ⟨h₂, t₂, rfl, k2⟩ := kk
    dsimp only at *
    have hfz' := hfz rfl
    have al2 : ∀ b ∈ wr, ∃ o, h₂.get? b = some o := fun b hb => let ⟨o, e, _⟩ := hI.2.1 0 h₂ st b hb; ⟨o, e⟩
    have L2 := L.grow k2 hwr al2
    have frz : ∀ a ∈ frameAddrs (cEnv scope C env), a ∈ Z' := nm.frameZ
    have T : Turn (wr ++ Z') (cEnv scope C env) D h₀ fp wr := by
      refine ⟨fun b hb => ⟨List.mem_append_left _ hb, fun m => ?_, fun q => ?_, none_of_ext L.keep (hwr b hb)⟩, List.mem_append_right _ G.Dz, G.Df, G.D0, fun m => hfz' D m G.Dz⟩
      · obtain ⟨o, e⟩ := L.alive b (frz b m); rw [hwr b hb] at e; cases e
      · obtain ⟨o, e⟩ := L.alive D G.Dz; rw [← q, hwr b hb] at e; cases e
    have loop : codeAny (model prog w) A (.compLoop (.ListComp elt [g1, ⟨target2, iter2, ifs2, 0⟩] scope pos) 1 (.ref I) (.ref D) (cEnv scope C env))
        (fun r s' => match r with | .ok _ => (∃ h' tk', s' = { s with heap := h', toks := tk' } ∧ LI base accR Z' (cEnv scope C env) D bs h₀ (outs ++ (ds.filter p).map f) h' ∧ Hout base (D :: cOwn scope C) h h') | .error e => cameBackBy (model prog w) A (cEnv scope C env) E e s') { s with heap := h₂, toks := t₂ } := by
      refine loop_gen (Z := Z) (Z' := wr ++ Z') (s₀ := { s with heap := h₀ }) (s := { s with heap := h₂, toks := t₂ }) (dd := dd) (K := K) (base := base) (βs := bs) (outs₀ := outs) (ρ := ρ) G.S G.N (fun a ha => List.mem_append_right _ (G.hz a ha))
        (fun a ha => let q := G.hc a ha; ⟨List.mem_append_right _ q.1, q.2.1, q.2.2, fun m => hfz' a m q.1⟩) (fun b o e hb m => ?_) G.W Wk T hI turn_in binds p (fun d => [f d]) (hasg C) hslot (htst C) 1001000 1 (fun _ _ => Nat.le_refl _)
        (fun d hd hp outs' h' tk' E' hl LL nn _ => ?_) (by omega) (fun i v hPv => ?_) st L2 (fun h' tk' kp fin => ?_)
      · rcases List.mem_append.mp m with q | q
        · obtain ⟨o', this⟩ := L.keep.al (fun m => nomatch m) ⟨o, e⟩; rw [hwr b q] at this; cases this
        · exact G.hf b o e hb q
      · exact emit_one (s := s) (s₀ := { s with heap := h₀ }) (helt C d hd hp) G.W T (Nat.le_trans hl (by decide)) LL nn
      · obtain ⟨d, hd, r⟩ := hP i v hPv
        refine ⟨d, hd, fun h' kp => r.mono (fun _ _ _ q => q) fun b o hb hc e => kp.ex (fun m => ?_) hc e⟩
        rcases List.mem_cons.mp m with m | m
        · exact hb (m ▸ List.mem_append_right _ G.Dz)
        · rcases List.mem_append.mp m with m | m
          · exact hb (List.mem_append_left _ m)
          · exact hb (List.mem_append_right _ (G.hc b m).1)
      · have LL := fin Z' fun a ha => ⟨List.mem_append_right _ ha, fun m => by obtain ⟨o, e⟩ := L.alive a ha; rw [hwr a m] at e; cases e⟩
        have e1 : (ds.filter p).flatMap (fun d => [f d]) = (ds.filter p).map f := by
          have : ∀ l : List PyData, l.flatMap (fun d => [f d]) = l.map f := fun l => by induction l with
            | nil => rfl
            | cons a l ih => rw [List.flatMap_cons, List.map_cons, ih]; rfl
          exact this _
        rw [e1] at LL
        refine ⟨h', tk', rfl, LL, (k2.less fun _ m => nomatch m).trans kp fun x hx => ?_⟩
        rcases List.mem_cons.mp hx with m | m
        · exact .inl (m ▸ .head _)
        · rcases List.mem_append.mp m with m | m
          · exact .inr (hwr x m)
          · exact .inl (.tail _ m)
    exact wpAny_runOwn (compStart_in rfl loop (Wk.self 0 _ _ _ st loop))

theorem comp_core {Ac : Heap → AccT} (hnil : ∀ h₀ Z h, (Ac h₀).P Z h [] []) {elt target iter : Expr} {ifs : List Expr} {rest : List Comprehension} {pos : Pos} {ds : List PyData} {RR : Value → Addr → Result → Shared → Prop} {emit : Value → Env → Sem Unit}
    (W : Wd K base dd A s.heap) (N : Nm Z env ρ s.heap) (S : ScopeOk scope env)
    (hcode : ∀ I acc cenv, TurnIs prog w A (.ref I) target ifs cenv (emit acc cenv) (.compLoop (.ListComp elt (⟨target, iter, ifs, 0⟩ :: rest) scope pos) 0 (.ref I) acc cenv))
    (binds : PyData → List (Str × PyData)) (p : PyData → Bool) (f : PyData → List PyData)
    (hasg : ∀ C, ∀ d ∈ ds, AsgOk prog w (cEnv scope C env) target d (binds d)) (hslot : ∀ d ∈ ds, ∀ x ∈ (binds d).map (·.1), scope.names.lookup x = some .local ∨ scope.names.lookup x = some .cell)
    (htst : ∀ C, ∀ d ∈ ds, Tsts prog w K base dd (cEnv scope C env) (fzs (binds d) ++ capt scope ρ) ifs (p d))
    (hemit : ∀ d ∈ ds, p d = true → EmitOk Ac prog w K base dd scope env ρ emit (binds d) (f d)) (hf1 : ∀ d ∈ ds, (f d).length ≤ 1000)
    (hsz : ds.length ≤ 1000)
    (hRR : ∀ D C h tk, s.heap.get? D = none → s.heap.get? C = none → D ≠ C → (∃ m, h.Ns C m) → (∃ ys : List Value, h.PlainList D ys.toArray ∧ (Ac s.heap).P (D :: C :: Z) h ys ((ds.filter p).flatMap f)) → Hext base s.heap h → (∀ a ∈ Z, ∃ o, h.get? a = some o) →
      RR (.ref D) C (.ok .next) { s with heap := h, toks := tk })
    {I : Addr} {fp wr : List Addr} {P : Nat → Value → Prop} {St : Nat → Heap → Prop} {s₂ : Shared}
    (kk : Keep base s s₂) (Wk : Walks prog w A I fp wr ds.length P St) (st : St 0 s₂.heap) (hwr : ∀ b ∈ wr, s.heap.get? b = none) (hfp : ∀ b ∈ fp, b < s₂.heap.objs.size)
    (hP : ∀ i v, P i v → ∃ dd, ds[i]? = some dd ∧ Rep (wr ++ Z) s₂.heap v dd) (hI : I ∈ wr ∧ (∀ i h, St i h → ∀ b ∈ wr, ∃ o, h.get? b = some o ∧ PlainIter o) ∧ ∀ i h, St i h → ∀ b ∈ fp, ∀ o, h.get? b = some o → ¬ IsFr o) :
    wpAny (model prog w) A (newList []) (fun acc s₃ => wpAny (model prog w) A (newFunctionEnv scope env.globals (clOf scope env) [] env.qual none .none (some env)) (fun cenv s₄ =>
      codeAny (model prog w) A (.compStart (.ListComp elt (⟨target, iter, ifs, 0⟩ :: rest) scope pos) 0 (.ref I) acc { cenv with scope := relabel scope env }) (RR acc cenv.locals) s₄) E s₃) E s₂ := by
  have k2 := kext kk
  have N₂ := N.keeps k2
  refine wpAny_newObj_type (newEnv_comp ?_) (by show (0 : Nat) ≤ sizeLine; exact Nat.zero_le _)
  obtain ⟨h₂, t₂, rfl, _⟩ := kk
  dsimp only at *
  have La := laid1 (Z := Z) (wr := wr) (fp := fp) (s := s) (h₂ := h₂) S N₂.fw
  rw [Heap.size_push]
  generalize hH : pushCells ((h₂.push { cls := .type "list", data := .seq ([] : List Value).toArray }).push { cls := .type "dict", data := .dict #[] }) scope.names = H at La ⊢
  generalize hDe : h₂.objs.size = D at La ⊢
  generalize hCe : D + 1 = C at La ⊢
  obtain ⟨_, hC, ext, hlist, fw, own⟩ := La
  have kH : Hext base s.heap H := hext_trans k2 (.of' ext)
  have fresh : ∀ a, D ≤ a → h₂.get? a = none := fun a ha => Heap.get?_none_of_le (by rw [hDe]; exact ha)
  have fresh0 : ∀ a, D ≤ a → s.heap.get? a = none := fun a ha => none_of_ext k2 (fresh a ha)
  have hDC : D < C := by rw [← hCe]; exact Nat.lt_succ_self _
  have ownD : ∀ a ∈ cOwn scope C, D < a := fun a ha => by have := (own a ha).1; rw [hDe] at this; exact this
  have hCown : C ∈ cOwn scope C := .head _
  have fpD : ∀ b ∈ fp, b < D := fun b hb => by have := hfp b hb; rw [hDe] at this; exact this
  have wrD : ∀ b ∈ wr, b < D := fun b hb => fpD b (Wk.sub b hb)
  have frm : ∀ a ∈ frameAddrs (cEnv scope C env), a ∈ cOwn scope C ∨ a ∈ frameAddrs env := cEnv_addrs S N.fw fun _ h => h
  have frAl : ∀ a ∈ frameAddrs env, ∃ o, s.heap.get? a = some o := fun a ha => N.alive a (N.frameZ a ha)
  have Hal : ∀ a ∈ cOwn scope C ++ D :: (wr ++ Z), ∃ o, H.get? a = some o := fun a ha => by
    rcases List.mem_append.mp ha with q | q
    · exact (own a q).2
    · rcases List.mem_cons.mp q with rfl | q
      · obtain ⟨n, e⟩ := hlist; exact ⟨_, e⟩
      · rcases List.mem_append.mp q with q | q
        · obtain ⟨o, e, _⟩ := hI.2.1 0 h₂ st a q; exact ⟨o, ext a o e⟩
        · exact kH.al (fun m => nomatch m) (N.alive a q)
  have L0 : LI base (Ac s.heap) (cOwn scope C ++ D :: (wr ++ Z)) (cEnv scope C env) D [] s.heap [] H := ⟨fw, fun x d e => by simp at e, ⟨[], by simpa using hlist, hnil _ _ _⟩, kH, Hal⟩
  have st' : St 0 H := Wk.frame _ _ _ st fun b _ o e => ext b o e
  have T : Turn (cOwn scope C ++ D :: (wr ++ Z)) (cEnv scope C env) D s.heap fp wr := by
    refine ⟨fun b hb => ⟨List.mem_append_right _ (.tail _ (List.mem_append_left _ hb)), fun m => ?_, Nat.ne_of_lt (wrD b hb), hwr b hb⟩, List.mem_append_right _ (.head _), fun m => ?_, fresh0 D (Nat.le_refl _), fun m => absurd (fpD D m) (Nat.lt_irrefl _)⟩
    · rcases frm b m with q | q
      · exact absurd (Nat.lt_trans (wrD b hb) (ownD b q)) (Nat.lt_irrefl _)
      · obtain ⟨o, e⟩ := frAl b q; rw [hwr b hb] at e; cases e
    · rcases frm D m with q | q
      · exact absurd (ownD D q) (Nat.lt_irrefl _)
      · obtain ⟨o, e⟩ := frAl D q; rw [fresh0 D (Nat.le_refl _)] at e; cases e
  have hf' : ∀ b o, s.heap.get? b = some o → b ∉ Z → b ∉ cOwn scope C ++ D :: (wr ++ Z) := fun b o e hb m => by
    rcases List.mem_append.mp m with q | q
    · rw [fresh0 b (Nat.le_of_lt (ownD b q))] at e; cases e
    · rcases List.mem_cons.mp q with rfl | q
      · rw [fresh0 b (Nat.le_refl _)] at e; cases e
      · rcases List.mem_append.mp q with q | q
        · rw [hwr b q] at e; cases e
        · exact hb q
  have loop : codeAny (model prog w) A (.compLoop (.ListComp elt (⟨target, iter, ifs, 0⟩ :: rest) scope pos) 0 (.ref I) (.ref D) (cEnv scope C env)) (RR (.ref D) C) { s with heap := H, toks := t₂ } := by
    have G : CompAt K base dd A scope env ρ Z s.heap C D (cOwn scope C ++ D :: (wr ++ Z)) := ⟨S, N, fun a ha => List.mem_append_right _ (.tail _ (List.mem_append_right _ ha)), fun a ha => ⟨List.mem_append_left _ ha, Nat.ne_of_gt (ownD a ha), fresh0 a (Nat.le_of_lt (ownD a ha))⟩, hf', fun h k => W.keeps k, T.Dz, T.Df, T.D0⟩
    refine loop_gen (Z' := cOwn scope C ++ D :: (wr ++ Z)) (s₀ := s) (s := { s with heap := H, toks := t₂ }) (dd := dd) (K := K) (base := base) (βs := []) (outs₀ := []) S N (fun a ha => List.mem_append_right _ (.tail _ (List.mem_append_right _ ha)))
      (fun a ha => ⟨List.mem_append_left _ ha, Nat.ne_of_gt (ownD a ha), fresh0 a (Nat.le_of_lt (ownD a ha)), fun m => absurd (Nat.lt_trans (fpD a m) (ownD a ha)) (Nat.lt_irrefl _)⟩)
      hf' (fun h k => W.keeps k) Wk T hI (hcode I _ _) binds p f (hasg C) (fun d hd x hx => ⟨hslot d hd x hx, rfl⟩) ?_ 1000000 1000 hf1 (fun d hd hp outs h tk E hl LL nn _ => ?_) (by simp only [List.length_nil]; omega) (fun i v hPv => ?_) st' L0 (fun h tk kp fin => ?_)
    · intro d hd; rw [List.append_nil]; exact htst C d hd
    · rw [List.append_nil] at LL nn ⊢; exact hemit d hd hp A Z s s.heap C D _ outs h tk E G hl LL nn
    · obtain ⟨d, hd, r⟩ := hP i v hPv
      refine ⟨d, hd, fun h kp => r.mono (fun b o e hb m => ?_) fun b o hb hc e => kp.ex (fun m => ?_) hc (ext b o e)⟩
      · rcases List.mem_append.mp m with q | q
        · rw [fresh b (Nat.le_of_lt (ownD b q))] at e; cases e
        · rcases List.mem_cons.mp q with rfl | q
          · rw [fresh b (Nat.le_refl _)] at e; cases e
          · exact hb q
      · rcases List.mem_cons.mp m with q | m
        · rw [q, fresh D (Nat.le_refl _)] at e; cases e
        · rcases List.mem_append.mp m with m | m
          · exact hb (List.mem_append_left _ m)
          · rw [fresh b (Nat.le_of_lt (ownD b m))] at e; cases e
    · have L1 := fin (D :: C :: Z) fun a ha => by
        rcases List.mem_cons.mp ha with rfl | ha
        · exact ⟨List.mem_append_right _ (.head _), fun m => absurd (wrD _ m) (Nat.lt_irrefl _)⟩
        · rcases List.mem_cons.mp ha with rfl | ha
          · exact ⟨List.mem_append_left _ hCown, fun m => absurd (Nat.lt_trans (wrD _ m) hDC) (Nat.lt_irrefl _)⟩
          · refine ⟨List.mem_append_right _ (.tail _ (List.mem_append_right _ ha)), fun m => ?_⟩
            obtain ⟨o, e⟩ := N.alive a ha; rw [hwr a m] at e; cases e
      obtain ⟨ys, h1, h2⟩ := L1.acc
      exact hRR D C h tk (fresh0 D (Nat.le_refl _)) (fresh0 C (Nat.le_of_lt hDC)) (Nat.ne_of_lt hDC) L1.fw.ns ⟨ys, h1, h2⟩ L1.keep fun a ha => L1.alive a (.tail _ (.tail _ ha))
  exact codeAny_compStart_list loop (Wk.self 0 _ _ _ st' loop)


theorem flat_one (f : PyData → PyData) : ∀ l : List PyData, l.flatMap (fun d => [f d]) = l.map f
  | [] => rfl
  | a :: l => by rw [List.flatMap_cons, List.map_cons, flat_one f l]; rfl

/-- a comprehension's list, whatever is done with it -/
noncomputable def CompU (Ac : Heap → AccT) (prog : Program) (w : World) (K : Frag) (base : Heap) (d : Nat) (env : Env) (ρ : List (Str × Bnd)) (e iter : Expr) (scope : Scope) (ds : List PyData) : Prop :=
  ∀ A Z (s : Shared) E use ps (Q : Value → Shared → Prop), Wd K base d A s.heap → Nm Z env ρ s.heap →
    (∀ D C h tk, s.heap.get? D = none → s.heap.get? C = none → D ≠ C → (∃ m, h.Ns C m) → (∃ ys : List Value, h.PlainList D ys.toArray ∧ (Ac s.heap).P (D :: C :: Z) h ys ds) → Hext base s.heap h → (∀ a ∈ Z, ∃ o, h.get? a = some o) →
      compPost (model prog w) A E use Q (.ref D) C (.ok .next) { s with heap := h, toks := tk }) →
    wpAny (model prog w) A (comprehension e scope env ps (newList []) false (eval iter env) use) Q E s

theorem cu_gen {Ac : Heap → AccT} (hnil : ∀ h₀ Z h, (Ac h₀).P Z h [] []) {elt target iter : Expr} {ifs : List Expr} {rest : List Comprehension} {pos : Pos} {ds : List PyData} {fz : Bool} {emit : Value → Env → Sem Unit} (hit : EvIt prog w K base dd env ρ iter ds fz) (S : ScopeOk scope env)
    (hcode : ∀ A I acc cenv, TurnIs prog w A (.ref I) target ifs cenv (emit acc cenv) (.compLoop (.ListComp elt (⟨target, iter, ifs, 0⟩ :: rest) scope pos) 0 (.ref I) acc cenv))
    (binds : PyData → List (Str × PyData)) (p : PyData → Bool) (f : PyData → List PyData)
    (hasg : ∀ C, ∀ d ∈ ds, AsgOk prog w (cEnv scope C env) target d (binds d)) (hslot : ∀ d ∈ ds, ∀ x ∈ (binds d).map (·.1), scope.names.lookup x = some .local ∨ scope.names.lookup x = some .cell)
    (htst : ∀ C, ∀ d ∈ ds, Tsts prog w K base dd (cEnv scope C env) (fzs (binds d) ++ capt scope ρ) ifs (p d))
    (hemit : ∀ d ∈ ds, p d = true → EmitOk Ac prog w K base dd scope env ρ emit (binds d) (f d)) (hf1 : ∀ d ∈ ds, (f d).length ≤ 1000)
    (hsz : ds.length ≤ 1000) (hs : ∀ x, foldedSetIterable iter env x = pure x := by intro _; rfl) :
    CompU Ac prog w K base dd env ρ (.ListComp elt (⟨target, iter, ifs, 0⟩ :: rest) scope pos) iter scope ((ds.filter p).flatMap f) := fun A Z s E use ps Q W N hpost => by
  refine wpAny_comprehension_free (use := use) rfl hs (closureFor_is fun n hn => N.fw.has n (S.free n hn)) S.kind (fun x hx hl => by
    obtain ⟨n, k⟩ := x
    dsimp only at hl
    subst hl
    exact lookup_of_nodup S.nodup hx) (hit A Z s E _ W N fun I fp wr P St s₂ kk Wk st hwr hfp _ hP hI => ?_)
  exact comp_core hnil (RR := fun acc C => compPost (model prog w) A E use _ acc C) W N S (hcode A) binds p f hasg hslot htst hemit hf1 hsz hpost kk Wk st hwr (fun b hb => let ⟨_, e⟩ := hfp b hb; Heap.lt_size e) hP hI

theorem CompU.ev {elt target iter : Expr} {ifs : List Expr} {rest : List Comprehension} {pos : Pos} {ds : List PyData} (h : CompU (fun _ => accR) prog w K base dd env ρ (.ListComp elt (⟨target, iter, ifs, 0⟩ :: rest) scope pos) iter scope ds) : Ev prog w K base dd env ρ (.ListComp elt (⟨target, iter, ifs, 0⟩ :: rest) scope pos) (IsNew ds) := fun A Z s E W N => by
  rw [eval_ListComp]
  refine h A Z s E none _ _ W N fun D C h tk hD hC hDC ns acc k al => ?_
  obtain ⟨m, hm⟩ := ns
  obtain ⟨ys, h1, h2⟩ := acc
  refine ⟨m, hm, fun h' hs' => ⟨⟨D, ys, rfl, hD, h1.extBut hs'.extBut hDC, ?_⟩, keeps_ext s h' tk ((k.trans (Hout.of (M := [C]) fun b o hb e => hs'.extBut b o (fun q => hb (q ▸ .head _)) e)) fun x hx => .inr (by rw [List.mem_singleton.mp hx]; exact hC))⟩⟩
  exact RepAll.mono (fun b o _ hb m => hb (.tail _ (.tail _ m))) (fun b o hb _ e => hs'.extBut b o (fun q => hb (by rw [q]; exact .tail _ (.head _))) e) h2

/-- of one clause -/
theorem cu_one {elt target iter : Expr} {ifs : List Expr} {pos : Pos} {ds : List PyData} {fz : Bool} (hit : EvIt prog w K base dd env ρ iter ds fz) (S : ScopeOk scope env)
    (binds : PyData → List (Str × PyData)) (p : PyData → Bool) (f : PyData → PyData)
    (hasg : ∀ C, ∀ d ∈ ds, AsgOk prog w (cEnv scope C env) target d (binds d)) (hslot : ∀ d ∈ ds, ∀ x ∈ (binds d).map (·.1), scope.names.lookup x = some .local ∨ scope.names.lookup x = some .cell)
    (htst : ∀ C, ∀ d ∈ ds, Tsts prog w K base dd (cEnv scope C env) (fzs (binds d) ++ capt scope ρ) ifs (p d))
    (helt : ∀ C, ∀ d ∈ ds, p d = true → Ev prog w K base dd (cEnv scope C env) (fzs (binds d) ++ capt scope ρ) elt (IsS (f d)))
    (hsz : ds.length ≤ 1000) (hs : ∀ x, foldedSetIterable iter env x = pure x := by intro _; rfl) :
    CompU (fun _ => accR) prog w K base dd env ρ (.ListComp elt [⟨target, iter, ifs, 0⟩] scope pos) iter scope ((ds.filter p).map f) := by
  rw [← flat_one]
  exact cu_gen (fun _ _ _ => RepAll.nil) (emit := fun acc cenv => do let _ ← call (.builtin "list.append") [acc, ← eval elt cenv]) hit S (fun A I acc cenv => turn_one) binds p _ hasg hslot htst (fun d hd hp => emitOk_one fun C => helt C d hd hp) (fun _ _ => by show 1 ≤ 1000; decide) hsz hs
/-- of two clauses -/
theorem cu_two {elt target iter target2 iter2 : Expr} {ifs ifs2 : List Expr} {pos : Pos} {ds : List PyData} {ds2 : PyData → List PyData} {fz : Bool} (hit : EvIt prog w K base dd env ρ iter ds fz) (S : ScopeOk scope env)
    (binds : PyData → List (Str × PyData)) (p : PyData → Bool) (binds2 : PyData → PyData → List (Str × PyData)) (p2 : PyData → PyData → Bool) (f : PyData → PyData → PyData)
    (hasg : ∀ C, ∀ d ∈ ds, AsgOk prog w (cEnv scope C env) target d (binds d)) (hslot : ∀ d ∈ ds, ∀ x ∈ (binds d).map (·.1), scope.names.lookup x = some .local ∨ scope.names.lookup x = some .cell)
    (htst : ∀ C, ∀ d ∈ ds, Tsts prog w K base dd (cEnv scope C env) (fzs (binds d) ++ capt scope ρ) ifs (p d))
    (hit2 : ∀ C, ∀ d ∈ ds, p d = true → EvIt prog w K base dd (cEnv scope C env) (fzs (binds d) ++ capt scope ρ) iter2 (ds2 d) true)
    (hasg2 : ∀ C, ∀ d ∈ ds, p d = true → ∀ d2 ∈ ds2 d, AsgOk prog w (cEnv scope C env) target2 d2 (binds2 d d2)) (hslot2 : ∀ d ∈ ds, ∀ d2 ∈ ds2 d, ∀ x ∈ (binds2 d d2).map (·.1), (scope.names.lookup x = some .local ∨ scope.names.lookup x = some .cell) ∧ (binds d).lookup x = none)
    (htst2 : ∀ C, ∀ d ∈ ds, p d = true → ∀ d2 ∈ ds2 d, Tsts prog w K base dd (cEnv scope C env) (fzs (binds2 d d2 ++ binds d) ++ capt scope ρ) ifs2 (p2 d d2))
    (helt : ∀ C, ∀ d ∈ ds, p d = true → ∀ d2 ∈ ds2 d, p2 d d2 = true → Ev prog w K base dd (cEnv scope C env) (fzs (binds2 d d2 ++ binds d) ++ capt scope ρ) elt (IsS (f d d2)))
    (hsz : ds.length ≤ 1000) (hsz2 : ∀ d ∈ ds, (ds2 d).length ≤ 1000) (hs : ∀ x, foldedSetIterable iter env x = pure x := by intro _; rfl) (hs2 : ∀ env x, foldedSetIterable iter2 env x = pure x := by intro _ _; rfl) :
    CompU (fun _ => accR) prog w K base dd env ρ (.ListComp elt [⟨target, iter, ifs, 0⟩, ⟨target2, iter2, ifs2, 0⟩] scope pos) iter scope ((ds.filter p).flatMap fun d => ((ds2 d).filter (p2 d)).map (f d)) :=
  cu_gen (fun _ _ _ => RepAll.nil) hit S (fun A I acc cenv => turn_out) binds p _ hasg hslot htst (fun d hd hp => emitOk_in (binds2 d) (p2 d) (f d) (fun C => hit2 C d hd hp) (fun C => hasg2 C d hd hp) (hslot2 d hd) (fun C => htst2 C d hd hp) (fun C => helt C d hd hp) (hsz2 d hd) hs2)
    (fun d hd => by rw [List.length_map]; exact Nat.le_trans (List.length_filter_le _ _) (hsz2 d hd)) hsz hs

/-! a list of new lists -/
noncomputable def MatP (h₀ : Heap) (Z : List Addr) (h : Heap) (ys : List Value) (ds : List PyData) : Prop :=
  ∃ as rows, ys = as.map Value.ref ∧ ds = rows.map PyData.list ∧ as.Nodup ∧ (∀ a ∈ as, h₀.get? a = none ∧ a ∉ Z ∧ ∃ o, h.get? a = some o) ∧ RowsAre Z h as rows
theorem RowsAre.length {Z : List Addr} {h : Heap} : ∀ {as : List Addr} {rs : List (List PyData)}, RowsAre Z h as rs → as.length = rs.length
  | [], [], _ => rfl
  | _ :: _, _ :: _, ⟨_, h⟩ => by simp [RowsAre.length h]
  | [], _ :: _, h => h.elim
  | _ :: _, [], h => h.elim
theorem RowsAre.snoc {Z : List Addr} {h : Heap} {a : Addr} {r : List PyData} (x : ∃ vs : List Value, h.PlainList a vs.toArray ∧ RepAll Z h vs r) : ∀ {as : List Addr} {rs : List (List PyData)}, RowsAre Z h as rs → RowsAre Z h (as ++ [a]) (rs ++ [r])
  | [], [], _ => ⟨x, trivial⟩
  | _ :: _, _ :: _, ⟨y, h⟩ => ⟨y, h.snoc x⟩
  | [], _ :: _, h => h.elim
  | _ :: _, [], h => h.elim
theorem RowsAre.at {Z : List Addr} {h : Heap} : ∀ {as : List Addr} {rs : List (List PyData)}, RowsAre Z h as rs → ∀ a ∈ as, ∃ vs : List Value, h.PlainList a vs.toArray
  | _ :: _, _ :: _, ⟨⟨vs, y, _⟩, h⟩, a, ha => (List.mem_cons.mp ha).elim (fun e => e ▸ ⟨vs, y⟩) fun m => RowsAre.at h a m
  | [], [], _, _, m => nomatch m
  | [], _ :: _, h, _, _ => h.elim
  | _ :: _, [], h, _, _ => h.elim
noncomputable def accM (h₀ : Heap) : AccT := ⟨MatP h₀, fun {Z Z' h h' ys ds} hz hk ⟨as, rows, e1, e2, nd, fr, R⟩ => by
  refine ⟨as, rows, e1, e2, nd, fun a ha => ?_, R.mono hz hk fun a ha o e => hk a o (fr a ha).2.1 e⟩
  obtain ⟨q1, q2, o, q3⟩ := fr a ha
  obtain ⟨_, n, q4⟩ := R.at a ha
  rw [q3] at q4; cases q4
  exact ⟨q1, hz a _ q3 q2, _, hk a _ q2 (show ¬ Value.type "list" = Value.type "frame" by decide) q3⟩, fun ⟨as, rows, e1, e2, _, _, R⟩ => by rw [e1, e2, List.length_map, List.length_map, R.length]⟩

theorem emitOk_mat {elt : Expr} {bs : List (Str × PyData)} {r : List PyData} (hr : ∀ d ∈ r, Flat d) (helt : ∀ C, Ev prog w K base dd (cEnv scope C env) (fzs bs ++ capt scope ρ) elt (IsNew r)) :
    EmitOk accM prog w K base dd scope env ρ (fun acc cenv => do let _ ← call (.builtin "list.append") [acc, ← eval elt cenv]) bs [.list r] := fun A Z s h₀ C D Z' outs h tk E G hsz L nm => by
  refine emit_gen (s := s) (s₀ := { s with heap := h₀ }) (fp := []) (wr := []) (helt C) (fun h1 h2 ys outs y k kk al q p => ?_) G.W ⟨fun _ m => (nomatch m), G.Dz, G.Df, G.D0, fun m => (nomatch m)⟩ (Nat.le_trans hsz (by decide)) L nm
  obtain ⟨a, vs, rfl, hn, hp, hv⟩ := q
  obtain ⟨as, rows, e1, e2, nd, fr, R⟩ := p
  have haz : a ∉ Z' := fun m => by obtain ⟨o, e⟩ := al a m; rw [hn] at e; cases e
  have hal : ∃ o, h2.get? a = some o := let ⟨n, e⟩ := hp; ⟨_, e⟩
  refine ⟨as ++ [a], rows ++ [r], by rw [e1, List.map_append]; rfl, by rw [e2, List.map_append]; rfl, ?_, fun b hb => ?_, (R.mono (fun _ _ _ q => q) (fun b o _ hc e => kk.ex (fun m => nomatch m) hc e) fun b _ o hc e => kk.ex (fun m => nomatch m) hc e).snoc ⟨vs, hp, hv⟩⟩
  · refine List.nodup_append.mpr ⟨nd, by simp, fun b hb c hc q => ?_⟩
    rw [List.mem_singleton.mp hc] at q
    obtain ⟨_, _, o, e⟩ := fr b hb
    rw [q, hn] at e; cases e
  · rcases List.mem_append.mp hb with m | m
    · obtain ⟨q1, q2, o, q3⟩ := fr b m
      obtain ⟨o', q4⟩ := kk.al (fun m => nomatch m) ⟨o, q3⟩; exact ⟨q1, q2, o', q4⟩
    · rw [List.mem_singleton.mp m]
      exact ⟨none_of_ext k hn, haz, hal⟩
/-- rows of their own -/
theorem cu_mat {elt target iter : Expr} {pos : Pos} {ds : List PyData} {fz : Bool} (hit : EvIt prog w K base dd env ρ iter ds fz) (S : ScopeOk scope env)
    (binds : PyData → List (Str × PyData)) (r : List PyData) (hr : ∀ d ∈ r, Flat d)
    (hasg : ∀ C, ∀ d ∈ ds, AsgOk prog w (cEnv scope C env) target d (binds d)) (hslot : ∀ d ∈ ds, ∀ x ∈ (binds d).map (·.1), scope.names.lookup x = some .local ∨ scope.names.lookup x = some .cell)
    (helt : ∀ C, ∀ d ∈ ds, Ev prog w K base dd (cEnv scope C env) (fzs (binds d) ++ capt scope ρ) elt (IsNew r))
    (hsz : ds.length ≤ 1000) (hs : ∀ x, foldedSetIterable iter env x = pure x := by intro _; rfl) :
    CompU accM prog w K base dd env ρ (.ListComp elt [⟨target, iter, [], 0⟩] scope pos) iter scope (ds.map fun _ => .list r) := by
  have e : ds.map (fun _ => PyData.list r) = (ds.filter fun _ => true).flatMap fun _ => [PyData.list r] := by
    rw [flat_one (fun _ => PyData.list r), List.filter_eq_self.mpr fun _ _ => rfl]
  rw [e]
  refine cu_gen (Ac := accM) (fun h₀ Z h => (⟨[], [], rfl, rfl, .nil, fun _ m => (nomatch m), trivial⟩ : MatP h₀ Z h [] [])) (emit := fun acc cenv => do let _ ← call (.builtin "list.append") [acc, ← eval elt cenv]) hit S (fun A I acc cenv => turn_one) binds _ _ hasg hslot (fun _ _ _ => tsts_nil) (fun d hd _ => emitOk_mat hr fun C => helt C d hd) (fun _ _ => by show 1 ≤ 1000; decide) hsz hs
end
end Mine
end

section
open PySem PySem.W PyProof.Rows PySem.Calls
namespace Mine

theorem frOk_ext {base h h' : Heap} (k : Hext base h h') : FrOk h h' := fun b o e q => let ⟨o', r1, r2, r3, _⟩ := k.up (fun m => nomatch m) e; ⟨o', r1, fun vs => r2 ▸ q vs, r3⟩

theorem Wd.step {K : Frag} {base : Heap} {d : Nat} {A : Around} {h h' : Heap} (W : Wd K base d A h) (k : base.StaysIn h') (f : FrOk h h') : Wd K base d A h' :=
  ⟨W.b, k, W.handled, W.depth, W.units, W.small, let ⟨l, e, q, g⟩ := W.fr; ⟨l, e, funFrames_frames f q, frames_cls f q g⟩⟩

/-- what a body may rely on: Y is not touched, M is -/
structure St (base : Heap) (Y M : List Addr) (env : Env) (ρ : List (Str × Bnd)) (h₀ h : Heap) : Prop where
  fw : Fw env h
  frameM : ∀ a ∈ frameAddrs env, a ∈ M
  new : ∀ a ∈ M, h₀.get? a = none
  alive : ∀ a ∈ Y ++ M, ∃ o, h.get? a = some o
  apart : ∀ a ∈ Y, a ∉ M
  keep : Hext base h₀ h
  var : ∃ ft : Str → List Addr, (∀ x b, ρ.lookup x = some b → ∃ v, VarAt h env x v ∧ BndOk (Y ++ M) h (ft x) v b) ∧ (∀ x, ∀ a ∈ ft x, a ∈ M ∧ a ∉ frameAddrs env) ∧ (∀ x y, x ≠ y → ∀ a ∈ ft x, a ∉ ft y)

/-- the footprints -/
structure VarsAt (Y M : List Addr) (env : Env) (ρ : List (Str × Bnd)) (h : Heap) (ft : Str → List Addr) : Prop where
  at_ : ∀ x b, ρ.lookup x = some b → ∃ v, VarAt h env x v ∧ BndOk (Y ++ M) h (ft x) v b
  in_ : ∀ x, ∀ a ∈ ft x, a ∈ M ∧ a ∉ frameAddrs env
  disj : ∀ x y, x ≠ y → ∀ a ∈ ft x, a ∉ ft y
theorem VarsAt.grow {Y M Y' M' : List Addr} {env : Env} {ρ : List (Str × Bnd)} {h h' : Heap} {ft : Str → List Addr} {base : Heap} (V : VarsAt Y M env ρ h ft) (k : Hext base h h') (hY : ∀ a ∈ Y', h.get? a = none) (hM : ∀ a ∈ M', h.get? a = none) : VarsAt (Y' ++ Y) (M' ++ M) env ρ h' ft := by
  have hz : ∀ b o, h.get? b = some o → b ∉ Y ++ M → b ∉ (Y' ++ Y) ++ (M' ++ M) := fun b o e hb m => by
    rcases List.mem_append.mp m with m | m
    · rcases List.mem_append.mp m with m | m
      · rw [hY b m] at e; cases e
      · exact hb (List.mem_append_left _ m)
    · rcases List.mem_append.mp m with m | m
      · rw [hM b m] at e; cases e
      · exact hb (List.mem_append_right _ m)
  exact ⟨fun x b e => let ⟨v, V, r⟩ := V.at_ x b e; ⟨v, V.keeps k, r.mono hz (fun b o _ hc e => k.ex (fun m => nomatch m) hc e) fun a _ o hc e => k.ex (fun m => nomatch m) hc e⟩, fun x a ha => ⟨List.mem_append_right _ (V.in_ x a ha).1, (V.in_ x a ha).2⟩, V.disj⟩

structure Chg (base : Heap) (M : List Addr) (h h' : Heap) : Prop where
  out : Hout base M h h'
  fr : FrOk h h'
theorem Chg.ext {base : Heap} {M : List Addr} {h h' : Heap} (k : Hext base h h') : Chg base M h h' := ⟨k.less fun _ m => (nomatch m), frOk_ext k⟩
theorem Chg.trans {base : Heap} {M M' : List Addr} {h h' h'' : Heap} (a : Chg base M h h') (b : Chg base M' h' h'') (hm : ∀ a ∈ M', a ∈ M ∨ h.get? a = none) : Chg base M h h'' := ⟨a.out.trans b.out hm, a.fr.trans b.fr⟩
theorem Chg.back {base : Heap} {M M' : List Addr} {h h' : Heap} (a : Chg base M h h') (b : ∀ a ∈ M', a ∈ M ∨ h.get? a = none) : ∀ {M'' : List Addr}, (∀ a ∈ M'', a ∈ M' ∨ h'.get? a = none) → ∀ a ∈ M'', a ∈ M ∨ h.get? a = none := fun hm c hc => by
  rcases hm c hc with q | q
  · exact b c q
  · by_cases m : c ∈ M
    · exact .inl m
    · exact .inr (a.out.none_of m q)

theorem St.nm {base : Heap} {Y M : List Addr} {env : Env} {ρ : List (Str × Bnd)} {h₀ h : Heap} (S : St base Y M env ρ h₀ h) : Nm (Y ++ M) env ρ h := by
  obtain ⟨ft, h1, h2, h3⟩ := S.var
  exact ⟨S.fw, fun a ha => List.mem_append_right _ (S.frameM a ha), fun x b e => let ⟨v, V, r⟩ := h1 x b e; ⟨v, ft x, V, r, fun a ha => List.mem_append_right _ (h2 x a ha).1⟩, S.alive⟩
theorem St.keeps {base : Heap} {Y M : List Addr} {env : Env} {ρ : List (Str × Bnd)} {h₀ h h' : Heap} (S : St base Y M env ρ h₀ h) (k : Hext base h h') : St base Y M env ρ h₀ h' := by
  obtain ⟨ft, h1, h2, h3⟩ := S.var
  exact ⟨S.fw.keeps k, S.frameM, S.new, fun a ha => k.al (fun m => nomatch m) (S.alive a ha), S.apart, hext_trans S.keep k, ft, fun x b e => let ⟨v, V, r⟩ := h1 x b e; ⟨v, V.keeps k, r.mono (fun _ _ _ q => q) (fun b o _ hc e => k.ex (fun m => nomatch m) hc e) fun a _ o hc e => k.ex (fun m => nomatch m) hc e⟩, h2, h3⟩
theorem St.weaken {base : Heap} {Y M : List Addr} {env : Env} {ρ ρ' : List (Str × Bnd)} {h₀ h : Heap} (S : St base Y M env ρ h₀ h) (k : ∀ x b, ρ'.lookup x = some b → ρ.lookup x = some b) : St base Y M env ρ' h₀ h := by
  obtain ⟨ft, h1, h2, h3⟩ := S.var
  exact ⟨S.fw, S.frameM, S.new, S.alive, S.apart, S.keep, ft, fun x b e => h1 x b (k x b e), h2, h3⟩
/-- new addresses come in -/
theorem St.grow {base : Heap} {Y M Y' M' : List Addr} {env : Env} {ρ : List (Str × Bnd)} {h₀ h h' : Heap} (S : St base Y M env ρ h₀ h) (k : Hext base h h') (hY : ∀ a ∈ Y', h.get? a = none ∧ ∃ o, h'.get? a = some o) (hM : ∀ a ∈ M', h.get? a = none ∧ ∃ o, h'.get? a = some o) (hd : ∀ a ∈ Y', a ∉ M') :
    St base (Y' ++ Y) (M' ++ M) env ρ h₀ h' := by
  obtain ⟨ft, h1, h2, h3⟩ := S.var
  have no : ∀ a, h.get? a = none → a ∈ Y ++ M → False := fun a q m => by obtain ⟨o, e⟩ := S.alive a m; rw [q] at e; cases e
  have hz : ∀ b o, h.get? b = some o → b ∉ Y ++ M → b ∉ (Y' ++ Y) ++ (M' ++ M) := fun b o e hb m => by
    rcases List.mem_append.mp m with m | m
    · rcases List.mem_append.mp m with m | m
      · rw [(hY b m).1] at e; cases e
      · exact hb (List.mem_append_left _ m)
    · rcases List.mem_append.mp m with m | m
      · rw [(hM b m).1] at e; cases e
      · exact hb (List.mem_append_right _ m)
  refine ⟨S.fw.keeps k, fun a ha => List.mem_append_right _ (S.frameM a ha), fun a ha => ?_, fun a ha => ?_, fun a ha hm => ?_, hext_trans S.keep k, ft,
    fun x b e => let ⟨v, V, r⟩ := h1 x b e; ⟨v, V.keeps k, r.mono hz (fun b o _ hc e => k.ex (fun m => nomatch m) hc e) fun a _ o hc e => k.ex (fun m => nomatch m) hc e⟩, fun x a ha => ⟨List.mem_append_right _ (h2 x a ha).1, (h2 x a ha).2⟩, h3⟩
  · rcases List.mem_append.mp ha with m | m
    · exact none_of_ext S.keep (hM a m).1
    · exact S.new a m
  · rcases List.mem_append.mp ha with m | m
    · rcases List.mem_append.mp m with m | m
      · exact (hY a m).2
      · exact k.al (fun m => nomatch m) (S.alive a (List.mem_append_left _ m))
    · rcases List.mem_append.mp m with m | m
      · exact (hM a m).2
      · exact k.al (fun m => nomatch m) (S.alive a (List.mem_append_right _ m))
  · rcases List.mem_append.mp ha with m | m
    · rcases List.mem_append.mp hm with q | q
      · exact hd a m q
      · exact no a (hY a m).1 (List.mem_append_right _ q)
    · rcases List.mem_append.mp hm with q | q
      · exact no a (hM a q).1 (List.mem_append_left _ m)
      · exact S.apart a m q

/-- only addresses of C have turned: no frame, no footprint -/
theorem St.turned {base : Heap} {Y Y' M C : List Addr} {env : Env} {ρ : List (Str × Bnd)} {h₀ h h' : Heap} (S : St base Y M env ρ h₀ h) (k : ∀ b o, b ∉ C → h.get? b = some o → h'.get? b = some o) (hC : ∀ a ∈ C, a ∈ Y ∧ h₀.get? a = none) (hY : ∀ a ∈ Y', a ∈ Y ∧ (a ∉ C ∨ ∃ o, h'.get? a = some o)) :
    St base Y' M env ρ h₀ h' := by
  obtain ⟨ft, h1, h2, h3⟩ := S.var
  have cM : ∀ a ∈ M, a ∉ C := fun a ha m => S.apart a (hC a m).1 ha
  have kf : ∀ a ∈ frameAddrs env, ∀ o, h.get? a = some o → h'.get? a = some o := fun a ha o e => k a o (cM a (S.frameM a ha)) e
  have kz : ∀ b o, b ∉ Y ++ M → h.get? b = some o → h'.get? b = some o := fun b o hb e => k b o (fun m => hb (List.mem_append_left _ (hC b m).1)) e
  have hz : ∀ b o, h.get? b = some o → b ∉ Y ++ M → b ∉ Y' ++ M := fun b o _ hb m => by
    rcases List.mem_append.mp m with m | m
    · exact hb (List.mem_append_left _ (hY b m).1)
    · exact hb (List.mem_append_right _ m)
  have hcell : ∀ n c, (n, c) ∈ env.cells → c ∈ frameAddrs env := fun n c hm => .tail _ (List.mem_map.mpr ⟨_, hm, rfl⟩)
  have kv : ∀ x u, VarAt h env x u → VarAt h' env x u := fun x u V => by
    rcases V with ⟨h1, m, h2, h3⟩ | ⟨h1, c, h2, h3⟩
    · exact .inl ⟨h1, m, h2.at' fun o e => kf _ (.head _) o e, h3⟩
    · obtain ⟨o, ho, hd⟩ := h3
      exact .inr ⟨h1, c, h2, o, kf _ (hcell _ _ (mem_of_lookup h2)) o ho, hd⟩
  refine ⟨⟨S.fw.kind, S.fw.glob, S.fw.blt, let ⟨m, e⟩ := S.fw.ns; ⟨m, e.at' fun o q => kf _ (.head _) o q⟩, fun n c hm => ?_, S.fw.apart, S.fw.off, S.fw.has⟩, S.frameM, S.new, fun a ha => ?_, fun a ha => S.apart a (hY a ha).1,
    S.keep.trans (Hout.of (M := C) k) (fun x hx => .inr (hC x hx).2), ft, fun x b e => let ⟨v, V, r⟩ := h1 x b e; ⟨v, kv x v V, r.mono hz (fun b o hb _ e => kz b o hb e) fun a ha o _ e => k a o (cM a (h2 x a ha).1) e⟩, h2, h3⟩
  · obtain ⟨v, o, ho, hd⟩ := S.fw.cells n c hm
    exact ⟨v, o, kf _ (hcell n c hm) o ho, hd⟩
  · rcases List.mem_append.mp ha with m | m
    · obtain ⟨q1, q2 | q2⟩ := hY a m
      · obtain ⟨o, e⟩ := S.alive a (List.mem_append_left _ q1); exact ⟨o, k a o q2 e⟩
      · exact q2
    · obtain ⟨o, e⟩ := S.alive a (List.mem_append_right _ m); exact ⟨o, k a o (cM a m) e⟩

/-- stores into the frame: the names that are stored are forgotten -/
theorem St.stored {base : Heap} {Y M : List Addr} {env : Env} {ρ ρ' : List (Str × Bnd)} {h₀ h h' : Heap} {xs : List Str} {ft : Str → List Addr} (S : St base Y M env ρ h₀ h) (V : VarsAt Y M env ρ h ft) (T : Stored env xs h h') (hx : ∀ x ∈ xs, Storable env x)
    (hn : ∃ ft' : Str → List Addr, (∀ x ∈ xs, ∀ b, ρ'.lookup x = some b → ∃ v, VarAt h' env x v ∧ BndOk (Y ++ M) h' (ft' x) v b) ∧ (∀ x ∈ xs, ∀ a ∈ ft' x, a ∈ M ∧ a ∉ frameAddrs env ∧ ∀ y, a ∉ ft y) ∧ (∀ x ∈ xs, ∀ y ∈ xs, x ≠ y → ∀ a ∈ ft' x, a ∉ ft' y))
    (ho : ∀ x, x ∉ xs → ∀ b, ρ'.lookup x = some b → ρ.lookup x = some b) : St base Y M env ρ' h₀ h' := by
  obtain ⟨h1, h2, h3⟩ := V
  obtain ⟨ft', g1, g2, g3⟩ := hn
  have slotF : ∀ a ∈ xs.map (slotOf env), a ∈ frameAddrs env := fun a ha => by obtain ⟨x, hm, rfl⟩ := List.mem_map.mp ha; exact slot_mem (hx x hm)
  have slotM : ∀ a ∈ xs.map (slotOf env), a ∈ M := fun a ha => S.frameM a (slotF a ha)
  refine ⟨T.fw, S.frameM, S.new, fun a ha => T.alive a (S.alive a ha), S.apart, S.keep.trans (Hout.of (M := xs.map (slotOf env)) T.out) (fun x hx => .inr (S.new x (slotM x hx))), (fun x => if x ∈ xs then ft' x else ft x), fun x b e => ?_, fun x a ha => ?_, fun x y hxy a ha hy => ?_⟩
  · by_cases m : x ∈ xs
    · simp only [m, if_true]; exact g1 x m b e
    · simp only [m, if_false]
      obtain ⟨v, V, r⟩ := h1 x b (ho x m b e)
      exact ⟨v, T.other x v m V, r.mono (fun _ _ _ q => q) (fun b o hb _ e => T.out b o (fun q => hb (List.mem_append_right _ (slotM b q))) e) fun a ha o _ e => T.out a o (fun q => (h2 x a ha).2 (slotF a q)) e⟩
  · by_cases m : x ∈ xs
    · simp only [m, if_true] at ha; exact ⟨(g2 x m a ha).1, (g2 x m a ha).2.1⟩
    · simp only [m, if_false] at ha; exact h2 x a ha
  · by_cases m : x ∈ xs <;> by_cases n : y ∈ xs <;> simp only [m, n, if_true, if_false] at ha hy
    · exact g3 x m y n hxy a ha hy
    · exact (g2 x m a ha).2.2 y hy
    · exact (g2 y n a hy).2.2 x ha
    · exact h3 x y hxy a ha hy

/-- frozen values are stored -/
theorem St.binds {base : Heap} {Y M : List Addr} {env : Env} {ρ : List (Str × Bnd)} {bs : List (Str × PyData)} {h₀ h h' : Heap} (S : St base Y M env ρ h₀ h) (T : Stored env (bs.map (·.1)) h h') (hx : ∀ x ∈ bs.map (·.1), Storable env x)
    (hb : ∀ x d, bs.lookup x = some d → ∃ u, VarAt h' env x u ∧ Rep (Y ++ M) h' u d) : St base Y M env (fzs bs ++ ρ) h₀ h' := by
  have key : ∀ x, x ∈ bs.map (·.1) → ∃ d, bs.lookup x = some d := fun x hm => by
    cases q : bs.lookup x with
    | some d => exact ⟨d, rfl⟩
    | none =>
      obtain ⟨p, hp, rfl⟩ := List.mem_map.mp hm
      have := List.lookup_eq_none_iff.mp q p hp
      simp at this
  obtain ⟨ft, v1, v2, v3⟩ := S.var
  refine S.stored ⟨v1, v2, v3⟩ T hx ⟨fun _ => [], fun x hm b e => ?_, fun _ _ _ m => (nomatch m), fun _ _ _ _ _ _ m => (nomatch m)⟩ fun x hm b e => ?_
  · obtain ⟨d, q⟩ := key x hm
    rw [List.lookup_append, lookup_fzs, q] at e
    cases e
    obtain ⟨u, V, r⟩ := hb x d q
    exact ⟨u, V, rfl, r⟩
  · rw [List.lookup_append, lookup_fzs] at e
    cases q : bs.lookup x with
    | none => rw [q] at e; exact e
    | some d => exact absurd (List.mem_map.mpr ⟨_, PySem.mem_of_lookup q, rfl⟩) hm

/-! statements -/
inductive Out where
  | next (ρ : List (Str × Bnd))
  | ret (d : PyData)
noncomputable def Fin (base : Heap) (env : Env) (Y M : List Addr) (h₀ h : Heap) : Out → Flow → Heap → Prop
  | .next ρ, f, h' => f = .next ∧ ∃ M', St base Y M' env ρ h₀ h' ∧ (∀ a ∈ M', a ∈ M ∨ h.get? a = none)
  | .ret d, f, h' => ∃ v, f = .ret v ∧ Rep Y h' v d ∧ Hext base h₀ h'
noncomputable def Ex (prog : Program) (w : World) (K : Frag) (base : Heap) (d : Nat) (env : Env) (ρ : List (Str × Bnd)) (ss : List Stmt) (o : Out) : Prop :=
  ∀ A Y M h₀ s E, Wd K base d A s.heap → base.StaysIn h₀ → St base Y M env ρ h₀ s.heap →
    wpAny (model prog w) A (execs ss env) (fun f s' => ∃ h' tk, s' = { s with heap := h', toks := tk } ∧ Fin base env Y M h₀ s.heap o f h' ∧ Chg base M s.heap h') E s
noncomputable def Ex1 (prog : Program) (w : World) (K : Frag) (base : Heap) (d : Nat) (env : Env) (ρ : List (Str × Bnd)) (ss : Stmt) (o : Out) : Prop :=
  ∀ A Y M h₀ s E, Wd K base d A s.heap → base.StaysIn h₀ → St base Y M env ρ h₀ s.heap →
    wpAny (model prog w) A (exec ss env) (fun f s' => ∃ h' tk, s' = { s with heap := h', toks := tk } ∧ Fin base env Y M h₀ s.heap o f h' ∧ Chg base M s.heap h') E s

section
variable {prog : Program} {w : World} {K : Frag} {base : Heap} {d : Nat} {env : Env} {ρ ρ' ρ'' : List (Str × Bnd)} {e l r v i : Expr} {pos p px : Pos} {o : Out} {x : Str}

theorem ex_nil : Ex prog w K base d env ρ [] (.next ρ) := fun A Y M h₀ s E W B S =>
  wpAny_execs_nil ⟨s.heap, s.toks, rfl, ⟨rfl, M, S, fun _ h => .inl h⟩, .ext .refl⟩
theorem ex_cons {st : Stmt} {rest : List Stmt} (h1 : Ex1 prog w K base d env ρ st (.next ρ')) (h2 : Ex prog w K base d env ρ' rest o) : Ex prog w K base d env ρ (st :: rest) o := fun A Y M h₀ s E W B S => by
  refine wpAny_execs_cons (wpAny_mono (h1 A Y M h₀ s E W B S) (fun f s₁ q => ?_) fun _ _ x => x)
  obtain ⟨h', tk, rfl, ⟨rfl, M', S', hM⟩, C⟩ := q
  refine wpAny_mono (h2 A Y M' h₀ _ E (W.step (S'.keep.stays (fun _ m => nomatch m) B) C.fr) B S') (fun f s₂ q => ?_) fun _ _ x => x
  obtain ⟨h'', tk', rfl, F, C'⟩ := q
  refine ⟨h'', tk', rfl, ?_, C.trans C' hM⟩
  cases o with
  | next ρ₂ =>
    obtain ⟨rfl, M'', S'', hM'⟩ := F
    exact ⟨rfl, M'', S'', C.back hM hM'⟩
  | ret dd => exact F
theorem ex_stop {st : Stmt} {rest : List Stmt} {dd : PyData} (h1 : Ex1 prog w K base d env ρ st (.ret dd)) : Ex prog w K base d env ρ (st :: rest) (.ret dd) := fun A Y M h₀ s E W B S => by
  refine wpAny_execs_cons (wpAny_mono (h1 A Y M h₀ s E W B S) (fun f s₁ q => ?_) fun _ _ x => x)
  obtain ⟨h', tk, rfl, ⟨v, rfl, r, k⟩, C⟩ := q
  exact ⟨h', tk, rfl, ⟨v, rfl, r, k⟩, C⟩
theorem Ex.weak {ss : List Stmt} (h : Ex prog w K base d env ρ ss (.next ρ')) (k : ∀ x b, ρ''.lookup x = some b → ρ'.lookup x = some b) : Ex prog w K base d env ρ ss (.next ρ'') := fun A Y M h₀ s E W B S => by
  refine wpAny_mono (h A Y M h₀ s E W B S) (fun f s₁ q => ?_) fun _ _ x => x
  obtain ⟨h', tk, rfl, ⟨rfl, M', S', hM⟩, C⟩ := q
  exact ⟨h', tk, rfl, ⟨rfl, M', S'.weaken k, hM⟩, C⟩
theorem Ex.pre {ss : List Stmt} (h : Ex prog w K base d env ρ' ss o) (k : ∀ x b, ρ'.lookup x = some b → ρ.lookup x = some b) : Ex prog w K base d env ρ ss o := fun A Y M h₀ s E W B S =>
  h A Y M h₀ s E W B (S.weaken k)

/-- x = e, frozen -/
theorem ex_set {dd : PyData} (hx : Storable env x) (h : Ev prog w K base d env ρ e (IsS dd)) (hs : swapsWith e (some (.Name x px)) pos.line env = pure false := by rfl) : Ex1 prog w K base d env ρ (.Assign [.Name x px] e pos) (.next ((x, .fz dd) :: ρ)) := fun A Y M h₀ s E W B S => by
  refine wpAny_Assign_Name (hs := hs) (wpAny_mono (h A _ s E W S.nm) (fun v s₁ q => ?_) fun _ _ x => x)
  obtain ⟨r, h₁, t₁, rfl, k⟩ := q
  have S1 := S.keeps k
  refine store1 S1.fw hx fun h' tk T V => ⟨h', tk, rfl, ⟨rfl, M, ?_, fun _ h => .inl h⟩, ⟨(k.less fun _ m => nomatch m).trans (Hout.of (M := [x].map (slotOf env)) T.out) (fun y hy => .inl ?_), (frOk_ext k).trans T.frames⟩⟩
  · refine (S1.binds (bs := [(x, dd)]) T (fun y hy => by rw [List.mem_singleton.mp hy]; exact hx) fun y dy e => ?_)
    simp only [List.lookup_cons] at e
    split at e
    · rename_i hz
      cases e
      rw [beq_iff_eq.mp hz]
      refine ⟨v, V, r.mono (fun _ _ _ q => q) fun b o hb _ e => T.out b o (fun m => hb ?_) e⟩
      rw [List.map_cons, List.map_nil, List.mem_singleton] at m
      rw [m]; exact List.mem_append_right _ (S.frameM _ (slot_mem hx))
    · simp at e
  · rw [List.map_cons, List.map_nil, List.mem_singleton] at hy
    rw [hy]; exact S.frameM _ (slot_mem hx)
/-- x = e, a list of its own -/
theorem ex_new {ds : List PyData} (hx : Storable env x) (h : Ev prog w K base d env ρ e (IsNew ds)) (hf : ∀ dd ∈ ds, Flat dd) (hs : swapsWith e (some (.Name x px)) pos.line env = pure false := by rfl) : Ex1 prog w K base d env ρ (.Assign [.Name x px] e pos) (.next ((x, .own ds) :: ρ)) := fun A Y M h₀ s E W B S => by
  refine wpAny_Assign_Name (hs := hs) (wpAny_mono (h A _ s E W S.nm) (fun v s₁ q => ?_) fun _ _ x => x)
  obtain ⟨⟨a, vs, rfl, hn, hp, r⟩, h₁, t₁, rfl, k⟩ := q
  have hal : ∃ o, h₁.get? a = some o := let ⟨n, e⟩ := hp; ⟨_, e⟩
  have S1 : St base Y ([a] ++ M) env ρ h₀ h₁ := S.grow (Y' := []) k (fun _ m => nomatch m) (fun b hb => by rw [List.mem_singleton.mp hb]; exact ⟨hn, hal⟩) (fun _ m => nomatch m)
  have haF : ∀ b, b ∈ frameAddrs env → b ≠ a := fun b hb q => by obtain ⟨o, e⟩ := S.alive b (List.mem_append_right _ (S.frameM b hb)); rw [q, hn] at e; cases e
  have hsl := slot_mem hx
  refine store1 S1.fw hx fun h' tk T V => ?_
  have hpa : h'.PlainList a vs.toArray := hp.at fun o e => T.out a o (fun m => by
    rw [List.map_cons, List.map_nil, List.mem_singleton] at m
    exact haF _ hsl m.symm) e
  refine ⟨h', tk, rfl, ⟨rfl, [a] ++ M, ?_, fun b hb => ?_⟩, ⟨(k.less fun _ m => nomatch m).trans (Hout.of (M := [x].map (slotOf env)) T.out) (fun y hy => .inl ?_), (frOk_ext k).trans T.frames⟩⟩
  · obtain ⟨ft, v1, v2, v3⟩ := S.var
    have VV : VarsAt Y M env ρ s.heap ft := ⟨v1, v2, v3⟩
    refine S1.stored (VV.grow (Y' := []) (M' := [a]) k (fun _ m => nomatch m) (fun b hb => by rw [List.mem_singleton.mp hb]; exact hn)) T (fun y hy => by rw [List.mem_singleton.mp hy]; exact hx) ⟨fun _ => [a], fun y hy b e => ?_, fun y hy b hb => ?_, fun y hy z hz hne => absurd ((List.mem_singleton.mp hy).trans (List.mem_singleton.mp hz).symm) hne⟩ fun y hy b e => ?_
    · rw [List.mem_singleton.mp hy, List.lookup_cons, beq_self_eq_true] at e
      cases e
      rw [List.mem_singleton.mp hy]
      exact ⟨_, V, a, vs, rfl, rfl, hpa, r.flat hf⟩
    · rw [List.mem_singleton.mp hb]
      refine ⟨.head _, fun m => haF a m rfl, fun z hz => ?_⟩
      obtain ⟨o, e⟩ := S.alive a (List.mem_append_right _ (v2 z a hz).1)
      rw [hn] at e; cases e
    · have : y ≠ x := fun q => hy (q ▸ .head _)
      rw [List.lookup_cons, beq_false_of_ne this] at e
      exact e
  · rcases List.mem_append.mp hb with q | q
    · rw [List.mem_singleton.mp q]; exact .inr hn
    · exact .inl q
  · rw [List.map_cons, List.map_nil, List.mem_singleton] at hy
    rw [hy]; exact S.frameM _ (slot_mem hx)
end
end Mine
end

section
open PySem PySem.W PyProof.Rows PySem.Calls
namespace Mine

section
variable {prog : Program} {w : World} {K : Frag} {base : Heap} {d : Nat} {env : Env} {ρ ρ' ρ'' : List (Str × Bnd)} {e l r v i : Expr} {pos p px : Pos} {o : Out} {x : Str}

/-- x's list is not touched any more -/
theorem St.freeze {Y M : List Addr} {h₀ h : Heap} {ds : List PyData} (S : St base Y M env ρ h₀ h) (hx : ρ.lookup x = some (.own ds)) : ∃ M', St base Y M' env ((x, .fz (.list ds)) :: ρ) h₀ h ∧ ∀ a ∈ M', a ∈ M := by
  obtain ⟨ft, h1, h2, h3⟩ := S.var
  obtain ⟨v, V, a, vs, rfl, e2, hp, hr⟩ := h1 x _ hx
  have ha : a ∈ ft x := by rw [e2]; exact .head _
  obtain ⟨haM, haF⟩ := h2 x a ha
  have sub : ∀ b ∈ M.filter (· ≠ a), b ∈ M ∧ b ≠ a := fun b hb => by
    obtain ⟨q1, q2⟩ := List.mem_filter.mp hb
    exact ⟨q1, of_decide_eq_true q2⟩
  have mem : ∀ b ∈ M, b ≠ a → b ∈ M.filter (· ≠ a) := fun b hb hne => List.mem_filter.mpr ⟨hb, decide_eq_true hne⟩
  have kk : ∀ b ∈ Y ++ M.filter (· ≠ a), b ∈ Y ++ M := fun b hb => (List.mem_append.mp hb).elim (fun q => List.mem_append_left _ q) fun q => List.mem_append_right _ (sub b q).1
  refine ⟨M.filter (· ≠ a), ⟨S.fw, fun b hb => mem b (S.frameM b hb) (fun q => haF (q ▸ hb)), fun b hb => S.new b (sub b hb).1, fun b hb => S.alive b (kk b hb), fun b hb q => S.apart b hb (sub b q).1, S.keep,
    fun y => if y = x then [] else ft y, fun y b e => ?_, fun y b hb => ?_, fun y z hne b hb hz => ?_⟩, fun b hb => (sub b hb).1⟩
  · rw [List.lookup_cons] at e
    by_cases q : y = x
    · subst q
      rw [beq_self_eq_true] at e
      cases e
      simp only [if_true]
      refine ⟨_, V, rfl, .list (fun m => ?_) (plain_L hp) (hr.less kk)⟩
      rcases List.mem_append.mp m with m | m
      · exact S.apart a m haM
      · exact (sub a m).2 rfl
    · rw [beq_false_of_ne q] at e
      simp only [q, if_false]
      obtain ⟨u, V', r'⟩ := h1 y b e
      exact ⟨u, V', r'.mono (fun _ _ _ q m => q (kk _ m)) (fun _ _ _ _ e => e) fun _ _ _ _ e => e⟩
  · by_cases q : y = x
    · simp only [q, if_true] at hb; cases hb
    · simp only [q, if_false] at hb
      exact ⟨mem b (h2 y b hb).1 (fun e => h3 y x q b hb (e ▸ ha)), (h2 y b hb).2⟩
  · by_cases q : y = x
    · simp only [q, if_true] at hb; cases hb
    · by_cases q' : z = x
      · simp only [q', if_true] at hz; cases hz
      · simp only [q, q', if_false] at hb hz; exact h3 y z hne b hb hz

theorem RowsAre.list {Z Z' : List Addr} {h : Heap} (hz : ∀ a ∈ Z', a ∈ Z) : ∀ {as : List Addr} {rs : List (List PyData)}, (∀ a ∈ as, a ∉ Z') → RowsAre Z h as rs → RepAll Z' h (as.map Value.ref) (rs.map PyData.list)
  | [], [], _, _ => .nil
  | a :: as, r :: rs, hn, ⟨⟨vs, h1, h2⟩, h3⟩ => .cons (.list (hn a (.head _)) (plain_L h1) (h2.less hz)) (RowsAre.list hz (fun b hb => hn b (.tail _ hb)) h3)
  | [], _ :: _, _, h => h.elim
  | _ :: _, [], _, h => h.elim
/-- nor are x's rows -/
theorem St.freezeM {Y M : List Addr} {h₀ h : Heap} {rows : List (List PyData)} (S : St base Y M env ρ h₀ h) (hx : ρ.lookup x = some (.mat rows)) : ∃ M', St base Y M' env ((x, .fz (.list (rows.map PyData.list))) :: ρ) h₀ h ∧ ∀ a ∈ M', a ∈ M := by
  obtain ⟨ft, h1, h2, h3⟩ := S.var
  obtain ⟨v, V, a, as, rfl, e2, nd, hp, hr⟩ := h1 x _ hx
  have haM : ∀ b ∈ ft x, b ∈ M ∧ b ∉ frameAddrs env := h2 x
  have sub : ∀ b ∈ M.filter (· ∉ ft x), b ∈ M ∧ b ∉ ft x := fun b hb => by
    obtain ⟨q1, q2⟩ := List.mem_filter.mp hb
    exact ⟨q1, of_decide_eq_true q2⟩
  have mem : ∀ b ∈ M, b ∉ ft x → b ∈ M.filter (· ∉ ft x) := fun b hb hne => List.mem_filter.mpr ⟨hb, decide_eq_true hne⟩
  have kk : ∀ b ∈ Y ++ M.filter (· ∉ ft x), b ∈ Y ++ M := fun b hb => (List.mem_append.mp hb).elim (fun q => List.mem_append_left _ q) fun q => List.mem_append_right _ (sub b q).1
  have off : ∀ b ∈ ft x, b ∉ Y ++ M.filter (· ∉ ft x) := fun b hb m => by
    rcases List.mem_append.mp m with m | m
    · exact S.apart b m (haM b hb).1
    · exact (sub b m).2 hb
  refine ⟨M.filter (· ∉ ft x), ⟨S.fw, fun b hb => mem b (S.frameM b hb) (fun q => (haM b q).2 hb), fun b hb => S.new b (sub b hb).1, fun b hb => S.alive b (kk b hb), fun b hb q => S.apart b hb (sub b q).1, S.keep,
    fun y => if y = x then [] else ft y, fun y b e => ?_, fun y b hb => ?_, fun y z hne b hb hz => ?_⟩, fun b hb => (sub b hb).1⟩
  · rw [List.lookup_cons] at e
    by_cases q : y = x
    · subst q
      rw [beq_self_eq_true] at e
      cases e
      simp only [if_true]
      exact ⟨_, V, rfl, .list (off a (e2 ▸ .head _)) (plain_L hp) (RowsAre.list kk (fun b hb => off b (e2 ▸ .tail _ hb)) hr)⟩
    · rw [beq_false_of_ne q] at e
      simp only [q, if_false]
      obtain ⟨u, V', r'⟩ := h1 y b e
      exact ⟨u, V', r'.mono (fun _ _ _ q m => q (kk _ m)) (fun _ _ _ _ e => e) fun _ _ _ _ e => e⟩
  · by_cases q : y = x
    · simp only [q, if_true] at hb; cases hb
    · simp only [q, if_false] at hb
      exact ⟨mem b (h2 y b hb).1 (h3 y x q b hb), (h2 y b hb).2⟩
  · by_cases q : y = x
    · simp only [q, if_true] at hb; cases hb
    · by_cases q' : z = x
      · simp only [q', if_true] at hz; cases hz
      · simp only [q, q', if_false] at hb hz; exact h3 y z hne b hb hz

theorem ex_freeze {ss : List Stmt} {ds : List PyData} (hx : ρ.lookup x = some (.own ds)) (h : Ex prog w K base d env ((x, .fz (.list ds)) :: ρ) ss o) : Ex prog w K base d env ρ ss o := fun A Y M h₀ s E W B S => by
  obtain ⟨M', S', hM⟩ := S.freeze hx
  refine wpAny_mono (h A Y M' h₀ s E W B S') (fun f s₁ q => ?_) fun _ _ x => x
  obtain ⟨h', tk, rfl, F, C⟩ := q
  refine ⟨h', tk, rfl, ?_, ⟨C.out.less hM, C.fr⟩⟩
  cases o with
  | next ρ₂ => obtain ⟨rfl, M'', S'', hM'⟩ := F; exact ⟨rfl, M'', S'', fun a ha => (hM' a ha).imp (hM a) id⟩
  | ret dd => exact F
theorem ex_freezeM {ss : List Stmt} {rows : List (List PyData)} (hx : ρ.lookup x = some (.mat rows)) (h : Ex prog w K base d env ((x, .fz (.list (rows.map PyData.list))) :: ρ) ss o) : Ex prog w K base d env ρ ss o := fun A Y M h₀ s E W B S => by
  obtain ⟨M', S', hM⟩ := S.freezeM hx
  refine wpAny_mono (h A Y M' h₀ s E W B S') (fun f s₁ q => ?_) fun _ _ x => x
  obtain ⟨h', tk, rfl, F, C⟩ := q
  refine ⟨h', tk, rfl, ?_, ⟨C.out.less hM, C.fr⟩⟩
  cases o with
  | next ρ₂ => obtain ⟨rfl, M'', S'', hM'⟩ := F; exact ⟨rfl, M'', S'', fun a ha => (hM' a ha).imp (hM a) id⟩
  | ret dd => exact F

/-- an if -/
theorem ex_if {body orelse : List Stmt} {b : Bool} (ht : Tst prog w K base d env ρ e b) (h1 : b = true → Ex prog w K base d env ρ body o) (h2 : b = false → Ex prog w K base d env ρ orelse o) : Ex1 prog w K base d env ρ (.If e body orelse pos) o := fun A Y M h₀ s E W B S => by
  refine wpAny_If (wpAny_mono (ht A _ s E W S.nm) (fun c s₁ q => ?_) fun _ _ x => x)
  obtain ⟨rfl, h₁, t₁, rfl, k⟩ := q
  have fin : ∀ ss, Ex prog w K base d env ρ ss o → wpAny (model prog w) A (execs ss env) (fun f s' => ∃ h' tk, s' = { s with heap := h', toks := tk } ∧ Fin base env Y M h₀ s.heap o f h' ∧ Chg base M s.heap h') E { s with heap := h₁, toks := t₁ } := fun ss hh => by
    refine wpAny_mono (hh A Y M h₀ _ E (W.keeps k) B (S.keeps k)) (fun f s₂ q => ?_) fun _ _ x => x
    obtain ⟨h', tk, rfl, F, C⟩ := q
    have k' : ∀ a, h₁.get? a = none → s.heap.get? a = none := fun a => none_of_ext k
    refine ⟨h', tk, rfl, ?_, ⟨(k.less fun _ m => nomatch m).trans C.out fun _ h => .inl h, (frOk_ext k).trans C.fr⟩⟩
    cases o with
    | next ρ₂ => obtain ⟨rfl, M'', S'', hM'⟩ := F; exact ⟨rfl, M'', S'', fun a ha => (hM' a ha).imp id (k' a)⟩
    | ret dd => exact F
  cases c with
  | true => exact fin body (h1 rfl)
  | false => exact fin orelse (h2 rfl)

/-- return e -/
theorem ex_return {dd : PyData} (h : Ev prog w K base d env ρ e (IsS dd)) : Ex1 prog w K base d env ρ (.Return (some e) pos) (.ret dd) := fun A Y M h₀ s E W B S => by
  refine wpAny_Return_some (wpAny_mono (h A _ s E W S.nm) (fun v s₁ q => ?_) fun _ _ x => x)
  obtain ⟨r, h₁, t₁, rfl, k⟩ := q
  exact ⟨h₁, t₁, rfl, ⟨v, rfl, r.less fun a ha => List.mem_append_left _ ha, (S.keeps k).keep⟩, .ext k⟩

/-- a for loop -/
theorem ex_for {target iter : Expr} {body : List Stmt} {ds : List PyData} (hit : EvIt prog w K base d env ρ iter ds true) (binds : PyData → List (Str × PyData)) (σ : Nat → List (Str × Bnd))
    (hasg : ∀ dd ∈ ds, AsgOk prog w env target dd (binds dd)) (hslot : ∀ dd ∈ ds, ∀ x ∈ (binds dd).map (·.1), Storable env x)
    (h0 : ∀ x b, (σ 0).lookup x = some b → ρ.lookup x = some b) (hbody : ∀ i dd, ds[i]? = some dd → Ex prog w K base d env (fzs (binds dd) ++ σ i) body (.next (σ (i + 1))))
    (hs : ∀ x, foldedSetIterable iter env x = pure x := by intro _; rfl) : Ex1 prog w K base d env ρ (.For target iter body [] pos) (.next (σ ds.length)) := fun A Y M h₀ s E W B S => by
  refine wpAny_For (hs := hs) (hit A (Y ++ M) s E _ W S.nm fun I fp wr P stI s₂ kk Wk st hwr hfp hfz hP hI => ?_)
  obtain ⟨h₂, t₂, rfl, k2⟩ := kk
  dsimp only at *
  have hfz' := hfz rfl
  have wrAl : ∀ i h, stI i h → ∀ b ∈ wr, ∃ o, h.get? b = some o := fun i h q b hb => let ⟨o, e, _⟩ := hI.2.1 i h q b hb; ⟨o, e⟩
  have wr0 : ∀ b ∈ wr, h₀.get? b = none := fun b hb => none_of_ext S.keep (hwr b hb)
  have S0 : St base (wr ++ Y) M env (σ 0) h₀ h₂ := by
    have := S.grow (Y' := wr) (M' := []) k2 (fun b hb => ⟨hwr b hb, wrAl 0 _ st b hb⟩) (fun _ m => nomatch m) (fun _ _ m => nomatch m)
    exact this.weaken h0
  refine codeAny_forLoop_any (fun k s' => ∃ i h tk M', s' = { s with heap := h, toks := tk } ∧ i ≤ ds.length ∧ k = ds.length + 1 - i ∧ stI i h ∧ St base (wr ++ Y) M' env (σ i) h₀ h ∧ (∀ a ∈ M', a ∈ M ∨ h₂.get? a = none) ∧
      Hout base (wr ++ M) h₂ h ∧ FrOk s.heap h) ?_ (ds.length + 1)
    ⟨0, h₂, t₂, M, rfl, Nat.zero_le _, rfl, st, S0, fun _ h => .inl h, .refl, frOk_ext k2⟩
  rintro k s' ⟨i, h, tk, M', rfl, hi, rfl, st, S1, hM, kp, fr⟩
  by_cases hlt : i < ds.length
  · refine Wk.item i _ _ _ hlt st fun v h1 tk1 hPv st1 k1 => ?_
    obtain ⟨dd, hd, hrep⟩ := hP i v hPv
    have hdm : dd ∈ ds := List.mem_of_getElem? hd
    obtain ⟨oI, eI, pI⟩ := hI.2.1 (i + 1) h1 st1 I hI.1
    have S2 : St base (wr ++ Y) M' env (σ i) h₀ h1 := S1.turned (C := wr) k1 (fun a ha => ⟨List.mem_append_left _ ha, wr0 a ha⟩) fun a ha => ⟨ha, by
      by_cases m : a ∈ wr
      · exact .inr (wrAl _ _ st1 a m)
      · exact .inl m⟩
    have fr1 : FrOk s.heap h1 := fun b o e q => by
      obtain ⟨o', e', q'⟩ := fr b o e q
      exact ⟨o', k1 b o' (fun m => by rw [hwr b m] at e; cases e) e', q'⟩
    have kp1 : Hout base (wr ++ M) h₂ h1 := kp.trans (Hout.of (M := wr) k1) fun x hx => .inl (List.mem_append_left _ hx)
    refine letOwned eI pI ?_
    have W2 : Wd K base d A h1 := W.step (S2.keep.stays (fun _ m => nomatch m) B) fr1
    have rep2 : Rep ((wr ++ Y) ++ M') h1 v dd := hrep.mono (fun b o e hb m => by
      rcases List.mem_append.mp m with m | m
      · rcases List.mem_append.mp m with m | m
        · exact hb (List.mem_append_left _ m)
        · exact hb (List.mem_append_right _ (List.mem_append_left _ m))
      · rcases hM b m with q | q
        · exact hb (List.mem_append_right _ (List.mem_append_right _ q))
        · rw [q] at e; cases e) fun b o hb hc e => kp1.ex (fun m => (List.mem_append.mp m).elim (fun m => hb (List.mem_append_left _ m)) fun m => hb (List.mem_append_right _ (List.mem_append_right _ m))) hc e
    refine hasg dd hdm A ((wr ++ Y) ++ M') _ _ v _ W2.handled S2.fw (fun a ha => List.mem_append_right _ (S2.frameM a ha)) rep2 fun h2 tk2 T hb2 => ?_
    have S3 := S2.binds T (hslot dd hdm) hb2
    have slM : ∀ a ∈ ((binds dd).map (·.1)).map (slotOf env), a ∈ M' := fun a ha => by
      obtain ⟨x, hx, rfl⟩ := List.mem_map.mp ha
      exact S2.frameM _ (slot_mem (hslot dd hdm x hx))
    refine wpAny_mono (hbody i dd hd A (wr ++ Y) M' h₀ { s with heap := h2, toks := tk2 } _ (W2.step (S3.keep.stays (fun _ m => nomatch m) B) T.frames) B S3) (fun f s₃ q => ?_) fun _ _ x => x
    obtain ⟨h3, tk3, rfl, ⟨rfl, M3, S4, hM3⟩, C⟩ := q
    have out12 : Hout base M' h1 h3 := (Hout.of (M := M') fun b o hb e => T.out b o (fun m => hb (slM b m)) e).trans C.out fun _ h => .inl h
    have hM3' : ∀ a ∈ M3, a ∈ M ∨ h₂.get? a = none := fun a ha => by
      rcases hM3 a ha with q | q
      · exact hM a q
      · by_cases m : a ∈ M
        · exact .inl m
        · cases e : h₂.get? a with
          | none => exact .inr rfl
          | some o =>
            by_cases mw : a ∈ wr
            · obtain ⟨o', e'⟩ := S3.alive a (List.mem_append_left _ (List.mem_append_left _ mw))
              rw [q] at e'; cases e'
            · obtain ⟨o1, e1⟩ := kp1.al (fun m' => (List.mem_append.mp m').elim mw m) ⟨o, e⟩
              by_cases ms : a ∈ M'
              · obtain ⟨o', e'⟩ := S3.alive a (List.mem_append_right _ ms)
                rw [q] at e'; cases e'
              · have := T.out a o1 (fun m' => ms (slM a m')) e1
                rw [q] at this; cases this
    refine ⟨ds.length + 1 - (i + 1), by omega, i + 1, h3, tk3, M3, rfl, hlt, rfl, ?_, S4, hM3', kp1.trans out12 (fun x hx => (hM x hx).imp (List.mem_append_right _) id), fr1.trans (FrOk.trans T.frames C.fr)⟩
    · refine Wk.frame _ _ _ st1 fun b hb o e => out12.ex (fun m => ?_) (hI.2.2 _ _ st1 b hb o e) e
      obtain ⟨o', e'⟩ := hfp b hb
      rcases hM b m with q | q
      · exact hfz' b hb (List.mem_append_right _ q)
      · rw [q] at e'; cases e'
  · have hin : i = ds.length := by omega
    subst hin
    refine Wk.done _ _ _ st fun h1 tk1 k1 => wpAny_execs_nil ?_
    have S2 : St base Y M' env (σ ds.length) h₀ h1 := S1.turned (C := wr) k1 (fun a ha => ⟨List.mem_append_left _ ha, wr0 a ha⟩) fun a ha => ⟨List.mem_append_right _ ha, .inl fun m => by
      obtain ⟨o, e⟩ := S.alive a (List.mem_append_left _ ha)
      rw [hwr a m] at e; cases e⟩
    refine ⟨h1, tk1, rfl, ⟨rfl, M', S2, fun a ha => (hM a ha).imp id (none_of_ext k2)⟩, ⟨?_, fun b o e q => ?_⟩⟩
    · have a1 : Hout base (wr ++ M) h₂ h1 := kp.trans (Hout.of (M := wr) k1) fun x hx => .inl (List.mem_append_left _ hx)
      exact (k2.less fun _ m => nomatch m).trans a1 fun x hx => (List.mem_append.mp hx).elim (fun m => .inr (hwr x m)) .inl
    · obtain ⟨o', e', q'⟩ := fr b o e q
      exact ⟨o', k1 b o' (fun m => by rw [hwr b m] at e; cases e) e', q'⟩
end
end Mine
end

section
open PySem PySem.W PyProof.Rows PySem.Calls
namespace Mine

section
variable {prog : Program} {w : World} {A : Around} {E : Value → Shared → Prop} {s : Shared}
theorem setItem_plain {l : Addr} {items : List Value} {k : Int} {t : Tok} {v : Value} {Q : Unit → Shared → Prop} (hl : s.heap.PlainList l items.toArray)
    (h0 : 0 ≤ k) (hfit : k < 2 ^ 63) (hn : k.toNat < items.length)
    (hQ : ∀ h', h'.PlainList l (items.set k.toNat v).toArray → Heap.SameBut l s.heap h' → Q () { s with heap := h' }) :
    wpAny (model prog w) A (setItem (.ref l) (.int k t) v) Q E s := by
  obtain ⟨n, ho⟩ := hl
  have hT : s.TypeIs (.ref l) "list" := ⟨_, ho, rfl⟩
  unfold setItem
  try with_reducible refine wpAny_holding ?_
  first | refine wpAny_bind (wpAny_pure ?_) | skip
  refine wpAny_bind (wpAny_sequenceKey hT (by decide) ?_)
  refine wpAny_bind (wpAny_callSpecial?_slot (name := Str.ofString "__setitem__") hT slot_list_setitem
    (wpAny_call_entry slot_list_setitem hT entry_list_setitem ?_ (args_list_setitem _ _ _)))
  show wpAny _ _ (Builtin.List.listSubscript? (.int k t) >>= _) _ _ s
  refine wpAny_bind (wpAny_listSubscript_int (fitsIndex_of h0 hfit) ?_)
  clear hfit
  obtain ⟨j, rfl⟩ := Int.eq_ofNat_of_zero_le h0
  have hj : j < items.toArray.size := by simpa using hn
  have hx' : items.toArray[j]? = some items.toArray[j] := Array.getElem?_eq_getElem hj
  show wpAny _ _ ((seqItemAt l j >>= fun r => pure (r.map (j, ·))) >>= _) _ _ s
  refine wpAny_bind (wpAny_bind (wpAny_seqItemAt ho rfl (wpAny_pure ?_)))
  rw [hx']
  show wpAny _ _ (setSeqItemAt l j v >>= _) _ _ s
  have e : Obj.mapSeq (·.setIfInBounds j v) { cls := .type "list", data := .seq items.toArray n } = { cls := .type "list", data := .seq (items.set j v).toArray n } := by
    simp [Obj.mapSeq, List.setIfInBounds_toArray]
  have hfin : (s.heap.update l (Obj.mapSeq (·.setIfInBounds j v))).PlainList l (items.set j v).toArray :=
    ⟨n, by rw [Heap.get?_update_self _ ho (by rw [e]; rfl), e]⟩
  refine wpAny_bind (wpAny_setSeqItemAt ho rfl ?_)
  first
    | exact wpAny_bind (wpAny_pure (wpAny_pure ⟨.none, rfl, wpAny_pure (hQ _ hfin (Heap.SameBut.update ..))⟩))
    | exact wpAny_pure ⟨.none, rfl, wpAny_pure (hQ _ hfin (Heap.SameBut.update ..))⟩
end

/-- one object of x's footprint has turned -/
theorem St.upd {base : Heap} {Y M : List Addr} {env : Env} {ρ : List (Str × Bnd)} {h₀ h h' : Heap} {ft : Str → List Addr} {x : Str} {a : Addr} {v : Value} {b : Bnd} (S : St base Y M env ρ h₀ h) (F : VarsAt Y M env ρ h ft) (ha : a ∈ ft x)
    (V : VarAt h env x v) (hs : Heap.SameBut a h h') (al : ∃ o, h'.get? a = some o) (hb : BndOk (Y ++ M) h' (ft x) v b) : St base Y M env ((x, b) :: ρ) h₀ h' := by
  obtain ⟨h1, h2, h3⟩ := F
  obtain ⟨haM, haF⟩ := h2 x a ha
  have k : ∀ c o, c ≠ a → h.get? c = some o → h'.get? c = some o := fun c o hc e => hs.extBut c o hc e
  have kf : ∀ c ∈ frameAddrs env, ∀ o, h.get? c = some o → h'.get? c = some o := fun c hc o e => k c o (fun q => haF (q ▸ hc)) e
  have kz : ∀ c o, c ∉ Y ++ M → h.get? c = some o → h'.get? c = some o := fun c o hc e => k c o (fun q => hc (q ▸ List.mem_append_right _ haM)) e
  have hcell : ∀ n c, (n, c) ∈ env.cells → c ∈ frameAddrs env := fun n c hm => .tail _ (List.mem_map.mpr ⟨_, hm, rfl⟩)
  have kv : ∀ x u, VarAt h env x u → VarAt h' env x u := fun x u V => by
    rcases V with ⟨h1, m, h2, h3⟩ | ⟨h1, c, h2, h3⟩
    · exact .inl ⟨h1, m, h2.at' fun o e => kf _ (.head _) o e, h3⟩
    · obtain ⟨o, ho, hd⟩ := h3
      exact .inr ⟨h1, c, h2, o, kf _ (hcell _ _ (mem_of_lookup h2)) o ho, hd⟩
  refine ⟨⟨S.fw.kind, S.fw.glob, S.fw.blt, let ⟨m, e⟩ := S.fw.ns; ⟨m, e.at' fun o q => kf _ (.head _) o q⟩, fun n c hm => ?_, S.fw.apart, S.fw.off, S.fw.has⟩, S.frameM, S.new, fun c hc => ?_, S.apart,
    S.keep.trans (Hout.of (M := [a]) fun c o hc e => k c o (fun q => hc (q ▸ .head _)) e) (fun x hx => .inr (by rw [List.mem_singleton.mp hx]; exact S.new a haM)), ft, fun y c e => ?_, h2, h3⟩
  · obtain ⟨v, o, ho, hd⟩ := S.fw.cells n c hm
    exact ⟨v, o, kf _ (hcell n c hm) o ho, hd⟩
  · by_cases q : c = a
    · exact q ▸ al
    · obtain ⟨o, e⟩ := S.alive c hc; exact ⟨o, k c o q e⟩
  · rw [List.lookup_cons] at e
    by_cases q : y = x
    · subst q
      rw [beq_self_eq_true] at e
      cases e
      exact ⟨v, kv _ _ V, hb⟩
    · rw [beq_false_of_ne q] at e
      obtain ⟨u, V', r'⟩ := h1 y c e
      exact ⟨u, kv _ _ V', r'.mono (fun _ _ _ q => q) (fun b o hb _ e => kz b o hb e) fun c hc o _ e => k c o (fun e' => h3 y x q c hc (e' ▸ ha)) e⟩

section
variable {prog : Program} {w : World} {K : Frag} {base : Heap} {d : Nat} {env : Env} {ρ ρ' ρ'' : List (Str × Bnd)} {e l r v i : Expr} {pos p px py apos spos : Pos} {o : Out} {x : Str}

theorem chg_same {M : List Addr} {h h' : Heap} {a : Addr} {its its' : Array Value} (hl : h.PlainList a its) (hl' : h'.PlainList a its') (hs : Heap.SameBut a h h') (ha : a ∈ M) : Chg base M h h' :=
  ⟨.of fun b o hb e => hs.extBut b o (fun q => hb (q ▸ ha)) e, fun b o e q => by
    by_cases m : b = a
    · subst m
      obtain ⟨n, e1⟩ := hl
      obtain ⟨n', e2⟩ := hl'
      rw [e] at e1; cases e1
      exact ⟨_, e2, fun vs q => (by cases q), rfl⟩
    · exact ⟨o, hs.extBut b o m e, q, rfl⟩⟩
theorem plain_al {h : Heap} {a : Addr} {its : Array Value} (p : h.PlainList a its) : ∃ o, h.get? a = some o := let ⟨n, q⟩ := p; ⟨_, q⟩

/-- x.append(e) -/
theorem ex_append {ds : List PyData} {dd : PyData} (hx : ρ.lookup x = some (.own ds)) (h : Ev prog w K base d env ρ e (IsS dd)) (hz : ds.length ≤ 1000000)
    (hi : interactive env = false) (hline : (apos.endLine == p.line) = true)
    (hfew : ((backTo p (starEach [e] env)).all (fun x => !x.1) && (backToKw p (keywordEach [] env)).all (fun x => x.1.isSome)
      && decide (([e] : List Expr).length + ([] : List Keyword).length + (if ([] : List Keyword).isEmpty then 0 else 1) < 30)) = true)
    (htrees : backTo p (starEach [e] env) = [(false, eval e env)])
    (hd : (x == ("__debug__" : Str)) = false := by decide) (hbase : attributeBase (.Name x px) "append" env (eval (.Name x px) env) = eval (.Name x px) env := by rfl) :
    Ex1 prog w K base d env ρ (.Expr (.Call (.Attribute (.Name x px) "append" apos) [e] [] p) pos) (.next ((x, .own (ds ++ [dd])) :: ρ)) := fun A Y M h₀ s E W B S => by
  obtain ⟨ft, v1, v2, v3⟩ := S.var
  obtain ⟨v, V, a, vs, rfl, e2, hp, hr⟩ := v1 x _ hx
  have ha : a ∈ ft x := by rw [e2]; exact .head _
  refine wpAny_Expr_any (hi := hi) (wpAny_Call_append hbase hfew hline htrees (wpAny_Name (V.load S.fw.kind ⟨a, _, rfl, plain_L hp, ?_⟩) hd))
  refine wpAny_mono (h A _ s E W S.nm) (fun y s₁ q => ?_) fun _ _ x => x
  obtain ⟨ry, h₁, t₁, rfl, k⟩ := q
  have S1 := S.keeps k
  have F1 : VarsAt Y M env ρ h₁ ft := VarsAt.grow (Y' := []) (M' := []) ⟨v1, v2, v3⟩ k (fun _ m => nomatch m) (fun _ m => nomatch m)
  refine wpAny_list_append_plain (plain_at hp fun o hc e => k.ex (fun m => nomatch m) hc e) (fun h' hl hs => ?_) ?_
  · have hl' : h'.PlainList a (vs ++ [y]).toArray := by simpa using hl
    have kz : ∀ b o, b ∉ Y ++ M → h₁.get? b = some o → h'.get? b = some o := fun b o hb e => hs.extBut b o (fun q => hb (q ▸ List.mem_append_right _ (v2 x a ha).1)) e
    refine ⟨h', t₁, rfl, ⟨rfl, M, S1.upd F1 ha (V.keeps k) hs (plain_al hl') ⟨a, _, rfl, e2, hl', ?_⟩, fun _ h => .inl h⟩, (Chg.ext k).trans (chg_same (plain_at hp fun o hc e => k.ex (fun m => nomatch m) hc e) hl' hs (v2 x a ha).1) fun _ h => .inl h⟩
    exact ((hr.keeps k).append (.one ry)).mono (fun _ _ _ q => q) fun b o hb _ e => kz b o hb e
  · rw [List.size_toArray, hr.length]
    exact Nat.le_trans hz (by decide)

/-- x[i] op= e over a list of its own, ints -/
theorem ex_aug {ds : List PyData} {k a b c : Int} {op : Operator} (hx : ρ.lookup x = some (.own ds)) (hi : Ev prog w K base d env ρ i (IsW (.int k))) (h0 : 0 ≤ k) (hk : k < 1000000) (ha : ds[k.toNat]? = some (.int a))
    (h : Ev prog w K base d env ρ e (IsW (.int b))) (hop : ∀ A (s : Shared) E (Q : Value → Shared → Prop) t u, Q (.int c s.toks) { s with toks := s.toks + 1 } → wpAny (model prog w) A (inplaceOp op (.int a t) (.int b u)) Q E s)
    (hd : (x == ("__debug__" : Str)) = false := by decide) (haug : ∀ ov iv new, augStore i ov iv new = (do holding [new, ov, iv] (setItem ov iv new); release [new, ov, iv] []; pure .next) := by intro _ _ _; rfl) :
    Ex1 prog w K base d env ρ (.AugAssign (.Subscript (.Name x px) i p) op e pos) (.next ((x, .own (ds.set k.toNat (.int c))) :: ρ)) := fun A Y M h₀ s E W B S => by
  obtain ⟨ft, v1, v2, v3⟩ := S.var
  obtain ⟨v, V, ad, vs, rfl, e2, hp, hr⟩ := v1 x _ hx
  have had : ad ∈ ft x := by rw [e2]; exact .head _
  obtain ⟨y, hy, ry⟩ := hr.get ha
  obtain ⟨ty, rfl⟩ := rep_int ry
  have hlt : k.toNat < vs.length := (List.getElem?_eq_some_iff.mp hy).1
  refine wpAny_AugAssign_Subscript_any (ha := haug) (wpAny_Name (V.load S.fw.kind ?_) hd)
  refine wpAny_mono (hi A _ s E W S.nm) (fun iv s₁ q => ?_) fun _ _ x => x
  obtain ⟨ri, h₁, t₁, rfl, k1⟩ := q
  obtain ⟨ti, rfl⟩ := rep_int ri
  have hp1 := plain_at hp fun o hc e => k1.ex (fun m => nomatch m) hc e
  refine wpAny_getItem_list hp1.isList h0 (Int.lt_trans hk (by decide)) (x := .int a ty) (by simpa using hy) ?_
  refine wpAny_mono (h A _ _ E (W.keeps k1) (S.keeps k1).nm) (fun bv s₂ q => ?_) fun _ _ x => x
  obtain ⟨rb, h₂, t₂, rfl, k2⟩ := q
  obtain ⟨tb, rfl⟩ := rep_int rb
  refine hop _ _ _ _ _ _ ?_
  have k12 : Hext base s.heap h₂ := hext_trans k1 k2
  have S2 := S.keeps k12
  have F2 : VarsAt Y M env ρ h₂ ft := VarsAt.grow (Y' := []) (M' := []) ⟨v1, v2, v3⟩ k12 (fun _ m => nomatch m) (fun _ m => nomatch m)
  refine setItem_plain (plain_at hp1 fun o hc e => k2.ex (fun m => nomatch m) hc e) h0 (Int.lt_trans hk (by decide)) hlt fun h' hl' hs => ?_
  have kz : ∀ b o, b ∉ Y ++ M → h₂.get? b = some o → h'.get? b = some o := fun b o hb e => hs.extBut b o (fun q => hb (q ▸ List.mem_append_right _ (v2 x ad had).1)) e
  refine ⟨h', _, rfl, ⟨rfl, M, S2.upd F2 had (V.keeps k12) hs (plain_al hl') ⟨ad, _, rfl, e2, hl', ?_⟩, fun _ h => .inl h⟩, (Chg.ext k12).trans (chg_same (plain_at hp1 fun o hc e => k2.ex (fun m => nomatch m) hc e) hl' hs (v2 x ad had).1) fun _ h => .inl h⟩
  exact ((hr.keeps k12).set (.int _ _)).mono (fun _ _ _ q => q) fun b o hb _ e => kz b o hb e

theorem rows_get {Z : List Addr} {h : Heap} : ∀ {as : List Addr} {rs : List (List PyData)} {k : Nat} {r : List PyData}, RowsAre Z h as rs → rs[k]? = some r → ∃ a vs, as[k]? = some a ∧ h.PlainList a (vs : List Value).toArray ∧ RepAll Z h vs r
  | a :: as, r :: rs, 0, r', ⟨⟨vs, h1, h2⟩, _⟩, hk => by cases hk; exact ⟨a, vs, rfl, h1, h2⟩
  | a :: as, r :: rs, k + 1, r', ⟨_, h3⟩, hk => by
    obtain ⟨a', vs, q1, q2, q3⟩ := rows_get h3 (by simpa using hk)
    exact ⟨a', vs, by simpa using q1, q2, q3⟩
  | [], [], k, r, _, hk => by simp at hk
  | [], _ :: _, _, _, h, _ => h.elim
  | _ :: _, [], _, _, h, _ => h.elim
theorem rows_set {Z : List Addr} {h h' : Heap} {a : Addr} {r : List PyData} (hs : Heap.SameBut a h h') (ha : a ∈ Z) (hn : ∃ vs : List Value, h'.PlainList a vs.toArray ∧ RepAll Z h' vs r) : ∀ {as : List Addr} {rs : List (List PyData)} {k : Nat}, as.Nodup → RowsAre Z h as rs → as[k]? = some a → RowsAre Z h' as (rs.set k r)
  | b :: as, q :: rs, 0, nd, ⟨_, h3⟩, hk => by
    cases hk
    refine ⟨hn, h3.mono (fun _ _ _ q => q) (fun c o hc _ e => hs.extBut c o (fun q => hc (q ▸ ha)) e) fun c hc o _ e => hs.extBut c o (fun q => ?_) e⟩
    exact (List.nodup_cons.mp nd).1 (q ▸ hc)
  | b :: as, q :: rs, k + 1, nd, ⟨⟨vs, h1, h2⟩, h3⟩, hk => by
    have hk' : as[k]? = some a := by simpa using hk
    have hne : b ≠ a := fun e => (List.nodup_cons.mp nd).1 (e ▸ List.mem_of_getElem? hk')
    refine ⟨⟨vs, h1.at fun o e => hs.extBut b o hne e, h2.mono (fun _ _ _ q => q) fun c o hc _ e => hs.extBut c o (fun q => hc (q ▸ ha)) e⟩, rows_set hs ha hn (List.nodup_cons.mp nd).2 h3 hk'⟩
  | [], _, _, _, _, hk => by simp at hk
  | _ :: _, [], _, _, h, _ => h.elim

/-- x[i][j] = e over a matrix -/
theorem ex_mset {rows : List (List PyData)} {j : Expr} {a b : Int} {row : List PyData} {dd : PyData} (hx : ρ.lookup x = some (.mat rows)) (hi : Ev prog w K base d env ρ i (IsW (.int a))) (hj : Ev prog w K base d env ρ j (IsW (.int b)))
    (ha0 : 0 ≤ a) (ha1 : a < 1000000) (hb0 : 0 ≤ b) (hb1 : b < 1000000) (hrow : rows[a.toNat]? = some row) (hb : b.toNat < row.length) (h : Ev prog w K base d env ρ e (IsS dd)) (hf : Flat dd)
    (hd : (x == ("__debug__" : Str)) = false := by decide) (hs : swapsWith e (some (.Subscript (.Subscript (.Name x px) i py) j p)) pos.line env = pure false := by rfl)
    (ht : ∀ a b, ∃ ops, subscripted i false a b = operate ops (getItem a b) := by intro _ _; exact ⟨_, rfl⟩) :
    Ex1 prog w K base d env ρ (.Assign [.Subscript (.Subscript (.Name x px) i py) j p] e pos) (.next ((x, .mat (rows.set a.toNat (row.set b.toNat dd))) :: ρ)) := fun A Y M h₀ s E W B S => by
  obtain ⟨ft, v1, v2, v3⟩ := S.var
  obtain ⟨v, V, ad, as, rfl, e2, nd, hp, hr⟩ := v1 x _ hx
  refine wpAny_Assign_Subscript (hs := hs) ?_
  refine wpAny_mono (h A _ s E W S.nm) (fun dv s₁ q => ?_) fun _ _ x => x
  obtain ⟨rd, h₁, t₁, rfl, k1⟩ := q
  have rd' := fun (Z : List Addr) (h : Heap) => rd.flat (Z' := Z) (h' := h) hf
  obtain ⟨ra, vs, hra, hpl, hrv⟩ := rows_get hr hrow
  have hrm : ra ∈ as := List.mem_of_getElem? hra
  have hrf : ra ∈ ft x := by rw [e2]; exact .tail _ hrm
  have kx : h₁.PlainList ad (as.map Value.ref).toArray := plain_at hp fun o hc e => k1.ex (fun m => nomatch m) hc e
  rw [arm_eval_Subscript]
  refine wpAny_bind (wpAny_Name ((V.keeps k1).load S.fw.kind ?_) hd)
  refine wpAny_bind (wpAny_holding (wpAny_mono (hi A _ _ E (W.keeps k1) (S.keeps k1).nm) (fun iv s₂ q => ?_) fun _ _ x => x))
  obtain ⟨ri, h₂, t₂, rfl, k2⟩ := q
  obtain ⟨ti, rfl⟩ := rep_int ri
  have k12 : Hext base s.heap h₂ := hext_trans k1 k2
  have hp2 := plain_at kx fun o hc e => k2.ex (fun m => nomatch m) hc e
  refine wpAny_bind (wpAny_standAt (wpAny_bind (wp_getitemInPython hp2.isList.typeIs slot_list_getitem.lookup ?_)))
  obtain ⟨ops, eo⟩ := ht (.ref ad) (.int a ti)
  rw [eo]
  refine wpAny_bind (wpAny_operate' (wpAny_getItem_list hp2.isList ha0 (Int.lt_trans ha1 (by decide)) (x := .ref ra) (by simp [hra]) ?_))
  refine wpAny_bind (wpAny_letTemporaryGo (wpAny_pure ?_))
  refine wpAny_mono (hj A _ _ E (W.keeps k12) (S.keeps k12).nm) (fun jv s₃ q => ?_) fun _ _ x => x
  obtain ⟨rj, h₃, t₃, rfl, k3⟩ := q
  obtain ⟨tj, rfl⟩ := rep_int rj
  have k13 : Hext base s.heap h₃ := hext_trans k12 k3
  have S3 := S.keeps k13
  have F3 : VarsAt Y M env ρ h₃ ft := VarsAt.grow (Y' := []) (M' := []) ⟨v1, v2, v3⟩ k13 (fun _ m => nomatch m) (fun _ m => nomatch m)
  have hlen := hrv.length
  refine setItem_plain (plain_at hpl fun o hc e => k13.ex (fun m => nomatch m) hc e) hb0 (Int.lt_trans hb1 (by decide)) (by rw [hlen]; exact hb) fun h' hl' hs' => ?_
  have kz : ∀ b o, b ∉ Y ++ M → h₃.get? b = some o → h'.get? b = some o := fun b o hb e => hs'.extBut b o (fun q => hb (q ▸ List.mem_append_right _ (v2 x ra hrf).1)) e
  have hne : ad ≠ ra := fun q => (List.nodup_cons.mp (e2 ▸ nd)).1 (q ▸ hrm)
  refine ⟨h', _, rfl, ⟨rfl, M, S3.upd F3 hrf (V.keeps k13) hs' (plain_al hl') ⟨ad, as, rfl, e2, nd, ?_, ?_⟩, fun _ h => .inl h⟩, (Chg.ext k13).trans (chg_same (plain_at hpl fun o hc e => k13.ex (fun m => nomatch m) hc e) hl' hs' (v2 x ra hrf).1) fun _ h => .inl h⟩
  · exact (plain_at hp fun o hc e => k13.ex (fun m => nomatch m) hc e).at fun o e => hs'.extBut ad o hne e
  · refine rows_set (Z := Y ++ M) hs' (List.mem_append_right _ (v2 x ra hrf).1) ⟨_, hl', ?_⟩ (List.nodup_cons.mp (e2 ▸ nd)).2 (hr.mono (fun _ _ _ q => q) (fun b o _ hc e => k13.ex (fun m => nomatch m) hc e) fun b _ o hc e => k13.ex (fun m => nomatch m) hc e) hra
    exact ((hrv.keeps k13).mono (fun _ _ _ q => q) fun b o hb _ e => kz b o hb e).set (rd' _ _)
/-- x = [comprehension], the list frozen or its own -/
theorem ex_comp {elt target iter : Expr} {ifs : List Expr} {rest : List Comprehension} {scope : Scope} {ds : List PyData} (hx : Storable env x) (h : CompU (fun _ => accR) prog w K base d env ρ (.ListComp elt (⟨target, iter, ifs, 0⟩ :: rest) scope p) iter scope ds)
    (hsw : swapsWith (.ListComp elt (⟨target, iter, ifs, 0⟩ :: rest) scope p) (some (.Name x px)) pos.line env = pure true) : Ex1 prog w K base d env ρ (.Assign [.Name x px] (.ListComp elt (⟨target, iter, ifs, 0⟩ :: rest) scope p) pos) (.next ((x, .fz (.list ds)) :: ρ)) := fun A Y M h₀ s E W B S => by
  rw [exec_Assign_Name_used _ _ _ _ hsw]
  refine wpAny_bind (wpAny_standAt (wpAny_bind ?_))
  show wpAny _ A (do let _ ← comprehension (.ListComp elt (⟨target, iter, ifs, 0⟩ :: rest) scope p) scope env _ (newList []) false (eval iter env) (some (assign (.Name x px) env))) _ _ s
  have N := S.nm
  refine wpAny_bind (wpAny_mono (h A _ s E (some (assign (.Name x px) env)) _ (fun _ s' => ∃ h' tk, s' = { s with heap := h', toks := tk } ∧ Fin base env Y M h₀ s.heap (.next ((x, .fz (.list ds)) :: ρ)) .next h' ∧ Chg base M s.heap h') W N fun D C h tk hD hC hDC ns acc k al => ?_) (fun _ s' hq => wpAny_pure (wpAny_pure hq)) fun _ _ e => e)
  obtain ⟨ys, h1, h2⟩ := acc
  have h2' : RepAll (D :: C :: (Y ++ M)) h ys ds := h2
  obtain ⟨mC, hmC⟩ := ns
  have hC' : ∃ o, h.get? C = some o := let ⟨o, _, _, e, _⟩ := hmC; ⟨o, e⟩
  have hsl := slot_mem hx
  have slC : slotOf env x ≠ C := fun q => by obtain ⟨o, e⟩ := S.alive _ (List.mem_append_right _ (S.frameM _ hsl)); rw [q, hC] at e; cases e
  have slM : ∀ b, b ∈ ([(x, PyData.list ds)].map (·.1)).map (slotOf env) → b ∈ M ∧ b ≠ C := fun b m => by
    rw [List.map_cons, List.map_nil, List.map_cons, List.map_nil, List.mem_singleton] at m
    rw [m]; exact ⟨S.frameM _ hsl, slC⟩
  have S1 : St base ([C] ++ Y) M env ρ h₀ h := S.grow (Y' := [C]) (M' := []) k (fun b hb => by rw [List.mem_singleton.mp hb]; exact ⟨hC, hC'⟩) (fun _ m => nomatch m) (fun _ _ m => nomatch m)
  show wpAny _ A (assign (.Name x px) env (.ref D)) _ _ _
  refine wpAny_assign_Name (store1 S1.fw hx fun hh tk' T V => ?_)
  refine ⟨mC, hmC.at' fun o e => T.out C o (fun m => (slM C m).2 rfl) e, fun h' hs' => ?_⟩
  have rD : Rep (([C] ++ Y) ++ M) hh (.ref D) (.list ds) := by
    refine .list (fun m => ?_) (plainL_at (plain_L h1) fun o _ e => T.out D o (fun m => ?_) e) (h2'.mono (fun b o _ hb m => hb ?_) fun b o hb _ e => T.out b o (fun m => hb ?_) e)
    · rcases List.mem_append.mp m with m | m
      · rcases List.mem_append.mp m with m | m
        · exact hDC (List.mem_singleton.mp m)
        · obtain ⟨o, e⟩ := S.alive D (List.mem_append_left _ m); rw [hD] at e; cases e
      · obtain ⟨o, e⟩ := S.alive D (List.mem_append_right _ m); rw [hD] at e; cases e
    · obtain ⟨o, e⟩ := S.alive D (List.mem_append_right _ (slM D m).1); rw [hD] at e; cases e
    · rcases List.mem_append.mp m with m | m
      · rcases List.mem_append.mp m with m | m
        · rw [List.mem_singleton.mp m]; exact .tail _ (.head _)
        · exact .tail _ (.tail _ (List.mem_append_left _ m))
      · exact .tail _ (.tail _ (List.mem_append_right _ m))
    · exact .tail _ (.tail _ (List.mem_append_right _ (slM b m).1))
  have S2 : St base ([C] ++ Y) M env ((x, .fz (.list ds)) :: ρ) h₀ hh := S1.binds (bs := [(x, .list ds)]) T (fun y hy => by rw [List.mem_singleton.mp hy]; exact hx) fun y dy e => by
    simp only [List.lookup_cons] at e
    split at e
    · rename_i hz
      cases e
      rw [beq_iff_eq.mp hz]
      exact ⟨_, V, rD⟩
    · simp at e
  have nC : ∀ b o, s.heap.get? b = some o → b ≠ C := fun b o e q => by rw [q, hC] at e; cases e
  have S3 : St base Y M env ((x, .fz (.list ds)) :: ρ) h₀ h' := S2.turned (C := [C]) (fun b o hb e => hs'.extBut b o (fun q => hb (q ▸ .head _)) e) (fun b hb => by rw [List.mem_singleton.mp hb]; exact ⟨List.mem_append_left _ (.head _), none_of_ext S.keep hC⟩)
    fun b hb => ⟨List.mem_append_right _ hb, .inl fun m => by
      obtain ⟨o, e⟩ := S.alive b (List.mem_append_left _ hb)
      exact nC b o e (List.mem_singleton.mp m)⟩
  refine ⟨h', tk', rfl, ⟨rfl, M, S3, fun _ h => .inl h⟩, ⟨?_, fun b o e q => ?_⟩⟩
  · refine ((k.less fun _ m => nomatch m).trans (Hout.of (M := ([x] : List Str).map (slotOf env)) T.out) fun y hy => .inl (slM y hy).1).trans (Hout.of (M := [C]) fun b o hb e => hs'.extBut b o (fun q => hb (q ▸ .head _)) e) fun y hy => .inr (by rw [List.mem_singleton.mp hy]; exact hC)
  · obtain ⟨o', e', q'⟩ := (frOk_ext k).trans T.frames b o e q
    exact ⟨o', hs'.extBut b o' (nC b o e) e', q'⟩
end
end Mine
end

section
open PySem PySem.W PyProof.Rows PySem.Calls
namespace Mine

section
variable {prog : Program} {w : World} {K : Frag} {base : Heap} {d : Nat} {env : Env} {ρ ρ' ρ'' : List (Str × Bnd)} {e l r v i : Expr} {pos p px py apos spos : Pos} {o : Out} {x : Str}

/-- a new value comes into the frame under x: footprint F, all new at h₁ -/
theorem St.fresh {Y M F : List Addr} {h₀ h h₁ h' : Heap} {u : Value} {b : Bnd} (S : St base Y M env ρ h₀ h) (hx : Storable env x) (k : Hext base h h₁) (hF : ∀ a ∈ F, h.get? a = none ∧ ∃ o, h₁.get? a = some o) (T : Stored env [x] h₁ h') (V : VarAt h' env x u)
    (hb : BndOk (Y ++ (F ++ M)) h' F u b) : St base Y (F ++ M) env ((x, b) :: ρ) h₀ h' := by
  obtain ⟨ft, v1, v2, v3⟩ := S.var
  have VV : VarsAt Y M env ρ h ft := ⟨v1, v2, v3⟩
  have S1 : St base Y (F ++ M) env ρ h₀ h₁ := S.grow (Y' := []) k (fun _ m => nomatch m) hF (fun _ m => nomatch m)
  have al : ∀ c, c ∈ M → ∃ o, h.get? c = some o := fun c hc => S.alive c (List.mem_append_right _ hc)
  have nF : ∀ a ∈ F, ∀ c ∈ M, c ≠ a := fun a ha c hc q => by obtain ⟨o, e⟩ := al c hc; rw [q, (hF a ha).1] at e; cases e
  refine S1.stored (VV.grow (Y' := []) (M' := F) k (fun _ m => nomatch m) fun a ha => (hF a ha).1) T (fun y hy => by rw [List.mem_singleton.mp hy]; exact hx) ⟨fun _ => F, fun y hy c e => ?_, fun y hy a ha => ⟨List.mem_append_left _ ha, fun m => nF a ha a (S.frameM a m) rfl, fun z hz => nF a ha a (v2 z a hz).1 rfl⟩,
    fun y hy z hz hne => absurd ((List.mem_singleton.mp hy).trans (List.mem_singleton.mp hz).symm) hne⟩ fun y hy c e => ?_
  · rw [List.mem_singleton.mp hy, List.lookup_cons, beq_self_eq_true] at e
    cases e
    rw [List.mem_singleton.mp hy]
    exact ⟨u, V, hb⟩
  · have : y ≠ x := fun q => hy (q ▸ .head _)
    rw [List.lookup_cons, beq_false_of_ne this] at e
    exact e

/-- x = [comprehension], a list of its own -/
theorem ex_comp_own {elt target iter : Expr} {ifs : List Expr} {rest : List Comprehension} {scope : Scope} {ds : List PyData} (hx : Storable env x) (h : CompU (fun _ => accR) prog w K base d env ρ (.ListComp elt (⟨target, iter, ifs, 0⟩ :: rest) scope p) iter scope ds)
    (hf : ∀ dd ∈ ds, Flat dd)
    (hsw : swapsWith (.ListComp elt (⟨target, iter, ifs, 0⟩ :: rest) scope p) (some (.Name x px)) pos.line env = pure true) : Ex1 prog w K base d env ρ (.Assign [.Name x px] (.ListComp elt (⟨target, iter, ifs, 0⟩ :: rest) scope p) pos) (.next ((x, .own ds) :: ρ)) := fun A Y M h₀ s E W B S => by
  rw [exec_Assign_Name_used _ _ _ _ hsw]
  refine wpAny_bind (wpAny_standAt (wpAny_bind ?_))
  show wpAny _ A (do let _ ← comprehension (.ListComp elt (⟨target, iter, ifs, 0⟩ :: rest) scope p) scope env _ (newList []) false (eval iter env) (some (assign (.Name x px) env))) _ _ s
  have N := S.nm
  refine wpAny_bind (wpAny_mono (h A _ s E (some (assign (.Name x px) env)) _ (fun _ s' => ∃ h' tk, s' = { s with heap := h', toks := tk } ∧ Fin base env Y M h₀ s.heap (.next ((x, .own ds) :: ρ)) .next h' ∧ Chg base M s.heap h') W N fun D C h tk hD hC hDC ns acc k al => ?_) (fun _ s' hq => wpAny_pure (wpAny_pure hq)) fun _ _ e => e)
  obtain ⟨ys, h1, h2⟩ := acc
  have h2' : RepAll (D :: C :: (Y ++ M)) h ys ds := h2
  obtain ⟨mC, hmC⟩ := ns
  have hC' : ∃ o, h.get? C = some o := let ⟨o, _, _, e, _⟩ := hmC; ⟨o, e⟩
  have hsl := slot_mem hx
  have old : ∀ b, b ∈ Y ++ M → b ≠ C ∧ b ≠ D := fun b hb => ⟨fun q => (by obtain ⟨o, e⟩ := S.alive _ hb; rw [q, hC] at e; cases e), fun q => (by obtain ⟨o, e⟩ := S.alive _ hb; rw [q, hD] at e; cases e)⟩
  have slM : ∀ b, b ∈ ([x] : List Str).map (slotOf env) → b ∈ M ∧ b ≠ C ∧ b ≠ D := fun b m => by
    rw [List.map_cons, List.map_nil, List.mem_singleton] at m
    rw [m]; exact ⟨S.frameM _ hsl, old _ (List.mem_append_right _ (S.frameM _ hsl))⟩
  have fw1 := S.fw.keeps k
  show wpAny _ A (assign (.Name x px) env (.ref D)) _ _ _
  refine wpAny_assign_Name (store1 fw1 hx fun hh tk' T V => ?_)
  refine ⟨mC, hmC.at' fun o e => T.out C o (fun m => (slM C m).2.1 rfl) e, fun h' hs' => ?_⟩
  have hpD : hh.PlainList D ys.toArray := h1.at fun o e => T.out D o (fun m => (slM D m).2.2 rfl) e
  have S2 : St base ([C] ++ Y) ([D] ++ M) env ((x, .own ds) :: ρ) h₀ hh := by
    have S1 : St base ([C] ++ Y) M env ρ h₀ h := S.grow (Y' := [C]) (M' := []) k (fun b hb => by rw [List.mem_singleton.mp hb]; exact ⟨hC, hC'⟩) (fun _ m => nomatch m) (fun _ _ m => nomatch m)
    -- through the heap without D
    obtain ⟨ft, v1, v2, v3⟩ := S.var
    have VV : VarsAt Y M env ρ s.heap ft := ⟨v1, v2, v3⟩
    have S1' : St base ([C] ++ Y) ([D] ++ M) env ρ h₀ h := S.grow (Y' := [C]) (M' := [D]) k (fun b hb => by rw [List.mem_singleton.mp hb]; exact ⟨hC, hC'⟩) (fun b hb => by rw [List.mem_singleton.mp hb]; exact ⟨hD, plain_al h1⟩) (fun b hb m => by rw [List.mem_singleton.mp hb] at m; exact hDC (List.mem_singleton.mp m).symm)
    have VV' := VV.grow (Y' := [C]) (M' := [D]) k (fun b hb => by rw [List.mem_singleton.mp hb]; exact hC) (fun b hb => by rw [List.mem_singleton.mp hb]; exact hD)
    refine S1'.stored VV' T (fun y hy => by rw [List.mem_singleton.mp hy]; exact hx) ⟨fun _ => [D], fun y hy c e => ?_, fun y hy a ha => ?_, fun y hy z hz hne => absurd ((List.mem_singleton.mp hy).trans (List.mem_singleton.mp hz).symm) hne⟩ fun y hy c e => ?_
    · rw [List.mem_singleton.mp hy, List.lookup_cons, beq_self_eq_true] at e
      cases e
      rw [List.mem_singleton.mp hy]
      exact ⟨_, V, D, ys, rfl, rfl, hpD, h2'.flat hf⟩
    · rw [List.mem_singleton.mp ha]
      exact ⟨.head _, fun m => (old D (List.mem_append_right _ (S.frameM D m))).2 rfl, fun z hz => (old D (List.mem_append_right _ (v2 z D hz).1)).2 rfl⟩
    · have : y ≠ x := fun q => hy (q ▸ .head _)
      rw [List.lookup_cons, beq_false_of_ne this] at e
      exact e
  have nC : ∀ b o, s.heap.get? b = some o → b ≠ C := fun b o e q => by rw [q, hC] at e; cases e
  have S3 : St base Y ([D] ++ M) env ((x, .own ds) :: ρ) h₀ h' := S2.turned (C := [C]) (fun b o hb e => hs'.extBut b o (fun q => hb (q ▸ .head _)) e) (fun b hb => by rw [List.mem_singleton.mp hb]; exact ⟨List.mem_append_left _ (.head _), none_of_ext S.keep hC⟩)
    fun b hb => ⟨List.mem_append_right _ hb, .inl fun m => by
      obtain ⟨o, e⟩ := S.alive b (List.mem_append_left _ hb)
      exact nC b o e (List.mem_singleton.mp m)⟩
  refine ⟨h', tk', rfl, ⟨rfl, [D] ++ M, S3, fun b hb => ?_⟩, ⟨?_, fun b o e q => ?_⟩⟩
  · rcases List.mem_append.mp hb with m | m
    · rw [List.mem_singleton.mp m]; exact .inr hD
    · exact .inl m
  · refine ((k.less fun _ m => nomatch m).trans (Hout.of (M := ([x] : List Str).map (slotOf env)) T.out) fun y hy => .inl (slM y hy).1).trans (Hout.of (M := [C]) fun b o hb e => hs'.extBut b o (fun q => hb (q ▸ .head _)) e) fun y hy => .inr (by rw [List.mem_singleton.mp hy]; exact hC)
  · obtain ⟨o', e', q'⟩ := (frOk_ext k).trans T.frames b o e q
    exact ⟨o', hs'.extBut b o' (nC b o e) e', q'⟩

/-- x = [[..] for ..], the rows its own -/
theorem ex_mat {elt target iter : Expr} {ifs : List Expr} {rest : List Comprehension} {scope : Scope} {rows : List (List PyData)} (hx : Storable env x) (h : CompU accM prog w K base d env ρ (.ListComp elt (⟨target, iter, ifs, 0⟩ :: rest) scope p) iter scope (rows.map PyData.list))
    (hf : ∀ r ∈ rows, ∀ dd ∈ r, Flat dd)
    (hsw : swapsWith (.ListComp elt (⟨target, iter, ifs, 0⟩ :: rest) scope p) (some (.Name x px)) pos.line env = pure false) : Ex1 prog w K base d env ρ (.Assign [.Name x px] (.ListComp elt (⟨target, iter, ifs, 0⟩ :: rest) scope p) pos) (.next ((x, .mat rows) :: ρ)) := fun A Y M h₀ s E W B S => by
  refine wpAny_Assign_Name (hs := hsw) ?_
  rw [eval_ListComp]
  refine h A _ s E none _ _ W S.nm fun D C h tk hD hC hDC ns acc k al => ?_
  obtain ⟨m, hm⟩ := ns
  obtain ⟨ys, h1, as, rows', rfl, e2, nd, fr, R⟩ := acc
  obtain rfl : rows = rows' := by
    have : ∀ a b : List (List PyData), a.map PyData.list = b.map PyData.list → a = b := by
      intro a
      induction a with
      | nil => intro b hb; cases b with | nil => rfl | cons _ _ => simp at hb
      | cons x a ih => intro b hb; cases b with
        | nil => simp at hb
        | cons y b => simp only [List.map_cons, List.cons.injEq, PyData.list.injEq] at hb; rw [hb.1, ih b hb.2]
    exact this _ _ e2
  refine ⟨m, hm, fun h' hs' => ?_⟩
  have nC : ∀ b o, s.heap.get? b = some o → b ≠ C := fun b o e q => by rw [q, hC] at e; cases e
  have k' : Hext base s.heap h' := k.trans (Hout.of (M := [C]) fun b o hb e => hs'.extBut b o (fun q => hb (q ▸ .head _)) e) fun y hy => .inr (by rw [List.mem_singleton.mp hy]; exact hC)
  have asC : ∀ a ∈ as, a ≠ C ∧ a ≠ D := fun a ha => ⟨fun q => (fr a ha).2.1 (by rw [q]; exact .tail _ (.head _)), fun q => (fr a ha).2.1 (by rw [q]; exact .head _)⟩
  have h1' : h'.PlainList D (as.map Value.ref).toArray := h1.extBut hs'.extBut hDC
  have R' : RowsAre (D :: C :: (Y ++ M)) h' as rows := RowsAre.mono (fun _ _ _ q => q) (fun b o hb _ e => hs'.extBut b o (fun q => hb (by rw [q]; exact .tail _ (.head _))) e) (fun b hb o _ e => hs'.extBut b o (asC b hb).1 e) R
  have hsl := slot_mem hx
  have slM : ∀ b, b ∈ ([x] : List Str).map (slotOf env) → b ∈ M := fun b m => by
    rw [List.map_cons, List.map_nil, List.mem_singleton] at m
    rw [m]; exact S.frameM _ hsl
  have old : ∀ b ∈ M, ∃ o, s.heap.get? b = some o := fun b hb => S.alive b (List.mem_append_right _ hb)
  refine store1 (S.fw.keeps k') hx fun hh tk' T V => ?_
  have offD : D ∉ ([x] : List Str).map (slotOf env) := fun m => by obtain ⟨o, e⟩ := old D (slM D m); rw [hD] at e; cases e
  have offA : ∀ a ∈ as, a ∉ ([x] : List Str).map (slotOf env) := fun a ha m => by obtain ⟨o, e⟩ := old a (slM a m); rw [(fr a ha).1] at e; cases e
  have F : ∀ a ∈ D :: as, s.heap.get? a = none ∧ ∃ o, h'.get? a = some o := fun a ha => by
    rcases List.mem_cons.mp ha with rfl | ha
    · exact ⟨hD, plain_al h1'⟩
    · obtain ⟨q1, q2, o, q3⟩ := fr a ha
      exact ⟨q1, o, hs'.extBut a o (asC a ha).1 q3⟩
  have RF : ∀ {as : List Addr} {rs : List (List PyData)}, (∀ r ∈ rs, ∀ dd ∈ r, Flat dd) → (∀ a ∈ as, a ∉ ([x] : List Str).map (slotOf env)) → RowsAre (D :: C :: (Y ++ M)) h' as rs → RowsAre (Y ++ ((D :: as) ++ M)) hh as rs := by
    intro as rs hf ha R
    have : ∀ {Z Z' : List Addr} {as : List Addr} {rs : List (List PyData)}, (∀ r ∈ rs, ∀ dd ∈ r, Flat dd) → (∀ a ∈ as, a ∉ ([x] : List Str).map (slotOf env)) → RowsAre Z h' as rs → RowsAre Z' hh as rs := by
      intro Z Z' as
      induction as with
      | nil => intro rs _ _ h; cases rs with | nil => trivial | cons _ _ => exact h.elim
      | cons a as ih =>
        intro rs hf ha h
        cases rs with
        | nil => exact h.elim
        | cons r rs =>
          obtain ⟨⟨vs, q1, q2⟩, q3⟩ := h
          exact ⟨⟨vs, q1.at fun o e => T.out a o (ha a (.head _)) e, q2.flat (hf r (.head _))⟩, ih (fun r hr => hf r (.tail _ hr)) (fun b hb => ha b (.tail _ hb)) q3⟩
    exact this hf ha R
  refine ⟨hh, tk', rfl, ⟨rfl, (D :: as) ++ M, S.fresh hx k' F T V ⟨D, as, rfl, rfl, List.nodup_cons.mpr ⟨fun m => (asC D m).2 rfl, nd⟩, h1'.at fun o e => T.out D o offD e, RF hf offA R'⟩, fun b hb => ?_⟩, ⟨(k'.less fun _ m => nomatch m).trans (Hout.of (M := ([x] : List Str).map (slotOf env)) T.out) fun y hy => .inl (slM y hy), (frOk_ext k').trans T.frames⟩⟩
  rcases List.mem_append.mp hb with q | q
  · exact .inr (F b q).1
  · exact .inl q
end
end Mine
end

section
open PySem PySem.W PyProof.Rows PySem.Calls
namespace Mine

theorem cellsFrom_nodup : ∀ (names : List (Str × NameKind)) (n : Nat), (names.map (·.1)).Nodup → ((cellsFrom n names []).map (·.1)).Nodup
  | [], _, _ => .nil
  | (x, k) :: r, n, h => by
    have h1 := List.nodup_cons.mp h
    unfold cellsFrom
    split
    · rename_i hk
      rw [cellsFrom_split, List.map_append]
      refine List.nodup_append.mpr ⟨cellsFrom_nodup r _ h1.2, by simp, fun a ha b hb q => ?_⟩
      rw [List.map_cons, List.map_nil, List.mem_singleton] at hb
      obtain ⟨⟨y, c⟩, hm, rfl⟩ := List.mem_map.mp ha
      have := cellsFrom_names r _ y c hm
      exact h1.1 (List.mem_map.mpr ⟨_, this, q.trans hb⟩)
    · exact cellsFrom_nodup r n h1.2

theorem bindL_other (kf : Str → Option NameKind) : ∀ (binds : List (Str × Value)) (m : Str → Option Value) (x : Str), x ∉ binds.map (·.1) → bindL kf binds m x = m x
  | [], m, x, _ => rfl
  | (n, v) :: r, m, x, h => by
    have h1 : x ≠ n := fun q => h (q ▸ .head _)
    have h2 : x ∉ r.map (·.1) := fun q => h (.tail _ q)
    unfold bindL
    rw [bindL_other kf r _ x h2]
    split
    · simp [h1]
    · rfl
theorem bindC_other (kf : Str → Option NameKind) : ∀ (binds : List (Str × Value)) (m : Str → Option Value) (x : Str), x ∉ binds.map (·.1) → bindC kf binds m x = m x
  | [], m, x, _ => rfl
  | (n, v) :: r, m, x, h => by
    have h1 : x ≠ n := fun q => h (q ▸ .head _)
    have h2 : x ∉ r.map (·.1) := fun q => h (.tail _ q)
    unfold bindC
    rw [bindC_other kf r _ x h2]
    split
    · rfl
    · simp [h1]
theorem bindL_get (kf : Str → Option NameKind) : ∀ (binds : List (Str × Value)) (m : Str → Option Value) (x : Str) (v : Value), binds.lookup x = some v → (binds.map (·.1)).Nodup → kf x = some .local → bindL kf binds m x = some v
  | [], m, x, v, h, _, _ => by simp at h
  | (n, u) :: r, m, x, v, h, hn, hk => by
    have h1 := List.nodup_cons.mp hn
    unfold bindL
    rw [List.lookup_cons] at h
    by_cases q : x = n
    · subst q
      rw [beq_self_eq_true] at h
      cases h
      rw [bindL_other kf r _ x h1.1, if_pos hk]; simp
    · rw [beq_false_of_ne q] at h
      exact bindL_get kf r _ x v h h1.2 hk
theorem bindC_get (kf : Str → Option NameKind) : ∀ (binds : List (Str × Value)) (m : Str → Option Value) (x : Str) (v : Value), binds.lookup x = some v → (binds.map (·.1)).Nodup → kf x = some .cell → bindC kf binds m x = some v
  | [], m, x, v, h, _, _ => by simp at h
  | (n, u) :: r, m, x, v, h, hn, hk => by
    have h1 := List.nodup_cons.mp hn
    unfold bindC
    rw [List.lookup_cons] at h
    by_cases q : x = n
    · subst q
      rw [beq_self_eq_true] at h
      cases h
      rw [bindC_other kf r _ x h1.1, if_neg (by rw [hk]; decide)]; simp
    · rw [beq_false_of_ne q] at h
      exact bindC_get kf r _ x v h h1.2 hk

/-- arguments, as they are bound: none of them is turned -/
noncomputable def AllB (Z : List Addr) (h : Heap) : List Value → List Bnd → Prop
  | [], [] => True
  | v :: vs, b :: bs => BndOk Z h [] v b ∧ AllB Z h vs bs
  | _, _ => False
theorem AllB.length {Z : List Addr} {h : Heap} {vs : List Value} {bs : List Bnd} (q : AllB Z h vs bs) : vs.length = bs.length := by
  induction vs generalizing bs with
  | nil => cases bs with
    | nil => rfl
    | cons b bs => exact q.elim
  | cons v vs ih => cases bs with
    | nil => exact q.elim
    | cons b bs => exact congrArg Nat.succ (ih q.2)
theorem allB_of {Z : List Addr} {h : Heap} {vs : List Value} {ds : List PyData} (r : RepAll Z h vs ds) : AllB Z h vs (ds.map Bnd.fz) := by
  induction vs generalizing ds with
  | nil => cases r; exact trivial
  | cons v vs ih => cases r with | cons h1 h2 => exact ⟨⟨rfl, h1⟩, ih h2⟩
theorem allB3 {Z : List Addr} {h : Heap} {vs : List Value} {b1 b2 b3 : Bnd} (q : AllB Z h vs [b1, b2, b3]) : ∃ a b c, vs = [a, b, c] ∧ BndOk Z h [] a b1 ∧ BndOk Z h [] b b2 ∧ BndOk Z h [] c b3 := by
  cases vs with
  | nil => exact q.elim
  | cons a vs => cases vs with
    | nil => exact q.2.elim
    | cons b vs => cases vs with
      | nil => exact q.2.2.elim
      | cons c vs => cases vs with
        | nil => exact ⟨a, b, c, rfl, q.1, q.2.1, q.2.2.1⟩
        | cons d vs => exact q.2.2.2.elim
theorem zip_lookup {Z : List Addr} {h : Heap} : ∀ {ps : List Str} {vs : List Value} {bs : List Bnd} {x : Str} {b : Bnd}, ps.length = bs.length → AllB Z h vs bs → (ps.zip bs).lookup x = some b → ∃ v, (ps.zip vs).lookup x = some v ∧ BndOk Z h [] v b
  | [], _, _, x, dx, _, _, e => by simp at e
  | p :: ps, v :: vs, d :: ds, x, dx, hl, ⟨r, rs⟩, e => by
    simp only [List.zip_cons_cons, List.lookup_cons] at e ⊢
    cases q : x == p with
    | true => rw [q] at e; cases e; exact ⟨v, rfl, r⟩
    | false => rw [q] at e; exact zip_lookup (by simpa using hl) rs e
  | p :: ps, [], [], x, dx, hl, _, e => by simp at hl
  | p :: ps, [], _ :: _, _, _, _, h, _ => h.elim
  | p :: ps, _ :: _, [], _, _, _, h, _ => h.elim
theorem fzs_zip : ∀ (ps : List Str) (ds : List PyData), ps.zip (ds.map Bnd.fz) = fzs (ps.zip ds)
  | [], _ => rfl
  | _ :: _, [] => rfl
  | p :: ps, d :: ds => by simp only [List.map_cons, List.zip_cons_cons, fzs, List.map_cons]; rw [← fzs, fzs_zip ps ds]

/-- a function of the program: what it gives for these arguments -/
noncomputable def Fn (prog : Program) (w : World) (K : Frag) (base : Heap) (n : Nat) (fa : Addr) (ds : List PyData) (res : PyData) : Prop :=
  ∀ d A Y (s : Shared) E vs, d + n ≤ 500 → Wd K base d A s.heap → (∀ a ∈ Y, ∃ o, s.heap.get? a = some o) → RepAll Y s.heap vs ds →
    wpAny (model prog w) A (call (.ref fa) vs) (fun v s' => Rep Y s'.heap v res ∧ Keep base s s') E s

noncomputable def FnB (prog : Program) (w : World) (K : Frag) (base : Heap) (n : Nat) (fa : Addr) (bs : List Bnd) (res : PyData) : Prop :=
  ∀ d A Y (s : Shared) E vs, d + n ≤ 500 → Wd K base d A s.heap → (∀ a ∈ Y, ∃ o, s.heap.get? a = some o) → AllB Y s.heap vs bs →
    wpAny (model prog w) A (call (.ref fa) vs) (fun v s' => Rep Y s'.heap v res ∧ Keep base s s') E s

/-- how the arguments are bound: a structure, so that nothing unfolds it -/
structure Binds (s : Shared) (fd : FuncData) (vs : List Value) (bs : List (Str × Value)) : Prop where
  go : BindsTo s fd ⟨vs, []⟩ bs
/-- a function's parameters: plain ones alone -/
structure Pars (fd : FuncData) (ns : List Str) : Prop where
  po : fd.params.posonlyargs = []
  ar : fd.params.args.map (·.arg) = ns
  va : fd.params.vararg = none
  ko : fd.params.kwonlyargs = []
  kw : fd.params.kwarg = none
section
variable {s : Shared} {fd : FuncData} {T : Addr} {o : Obj} {d1 d2 : Value} {k : Nat} {K : Frag}
theorem args1 {as : List Arg} {n : Str} (h : as.map (·.arg) = [n]) : ∃ an p, as = [⟨n, an, p⟩] := by
  obtain ⟨a, r, rfl⟩ : ∃ a r, as = a :: r := by cases as with | nil => cases h | cons a r => exact ⟨a, r, rfl⟩
  obtain ⟨h1, h2⟩ := List.cons.inj h
  obtain ⟨a1, a2, a3⟩ := a
  exact ⟨a2, a3, by rw [List.map_eq_nil_iff.mp h2, show a1 = n from h1]⟩
theorem argsS {as : List Arg} {n : Str} {ns : List Str} (h : as.map (·.arg) = n :: ns) : ∃ an p r, as = ⟨n, an, p⟩ :: r ∧ r.map (·.arg) = ns := by
  obtain ⟨a, r, rfl⟩ : ∃ a r, as = a :: r := by cases as with | nil => cases h | cons a r => exact ⟨a, r, rfl⟩
  obtain ⟨h1, h2⟩ := List.cons.inj h
  obtain ⟨a1, a2, a3⟩ := a
  exact ⟨a2, a3, r, by rw [show a1 = n from h1], h2⟩
theorem binds_self (x : Value) (h : Pars fd ["self"]) (hd : fd.defaults = .none) : Binds s fd [x] [("self", x)] := by
  obtain ⟨h1, h2, h3, h4, h5⟩ := h
  refine ⟨.of_eq ?_⟩
  obtain ⟨name, qual, ⟨po, as, va, ko, kd, kw, df⟩, body, scope, globals, closure, defaults, kwd, doc, pm, an, code, ct, bt⟩ := fd
  dsimp only at h1 h2 h3 h4 h5 hd
  subst h1 h3 h4 h5 hd
  obtain ⟨_, _, rfl⟩ := args1 h2
  rfl
theorem binds_match (x : Value) (h : Pars fd ["match"]) (hd : fd.defaults = .none) : Binds s fd [x] [("match", x)] := by
  obtain ⟨h1, h2, h3, h4, h5⟩ := h
  refine ⟨.of_eq ?_⟩
  obtain ⟨name, qual, ⟨po, as, va, ko, kd, kw, df⟩, body, scope, globals, closure, defaults, kwd, doc, pm, an, code, ct, bt⟩ := fd
  dsimp only at h1 h2 h3 h4 h5 hd
  subst h1 h3 h4 h5 hd
  obtain ⟨_, _, rfl⟩ := args1 h2
  rfl
theorem binds_host (x : Value) (h : Pars fd ["host"]) (hd : fd.defaults = .none) : Binds s fd [x] [("host", x)] := by
  obtain ⟨h1, h2, h3, h4, h5⟩ := h
  refine ⟨.of_eq ?_⟩
  obtain ⟨name, qual, ⟨po, as, va, ko, kd, kw, df⟩, body, scope, globals, closure, defaults, kwd, doc, pm, an, code, ct, bt⟩ := fd
  dsimp only at h1 h2 h3 h4 h5 hd
  subst h1 h3 h4 h5 hd
  obtain ⟨_, _, rfl⟩ := args1 h2
  rfl
theorem binds_text (x : Value) (h : Pars fd ["text"]) (hd : fd.defaults = .none) : Binds s fd [x] [("text", x)] := by
  obtain ⟨h1, h2, h3, h4, h5⟩ := h
  refine ⟨.of_eq ?_⟩
  obtain ⟨name, qual, ⟨po, as, va, ko, kd, kw, df⟩, body, scope, globals, closure, defaults, kwd, doc, pm, an, code, ct, bt⟩ := fd
  dsimp only at h1 h2 h3 h4 h5 hd
  subst h1 h3 h4 h5 hd
  obtain ⟨_, _, rfl⟩ := args1 h2
  rfl
theorem binds_script (x : Value) (h : Pars fd ["script"]) (hd : fd.defaults = .none) : Binds s fd [x] [("script", x)] := by
  obtain ⟨h1, h2, h3, h4, h5⟩ := h
  refine ⟨.of_eq ?_⟩
  obtain ⟨name, qual, ⟨po, as, va, ko, kd, kw, df⟩, body, scope, globals, closure, defaults, kwd, doc, pm, an, code, ct, bt⟩ := fd
  dsimp only at h1 h2 h3 h4 h5 hd
  subst h1 h3 h4 h5 hd
  obtain ⟨_, _, rfl⟩ := args1 h2
  rfl
theorem binds_hn (x y : Value) (h : Pars fd ["hosts", "names"]) (hd : fd.defaults = .none) : Binds s fd [x, y] [("hosts", x), ("names", y)] := by
  obtain ⟨h1, h2, h3, h4, h5⟩ := h
  refine ⟨.of_eq ?_⟩
  obtain ⟨name, qual, ⟨po, as, va, ko, kd, kw, df⟩, body, scope, globals, closure, defaults, kwd, doc, pm, an, code, ct, bt⟩ := fd
  dsimp only at h1 h2 h3 h4 h5 hd
  subst h1 h3 h4 h5 hd
  obtain ⟨_, _, as1, rfl, q1⟩ := argsS h2
  obtain ⟨_, _, rfl⟩ := args1 q1
  rfl
theorem binds_np (x y : Value) (h : Pars fd ["names", "pairs"]) (hd : fd.defaults = .none) : Binds s fd [x, y] [("names", x), ("pairs", y)] := by
  obtain ⟨h1, h2, h3, h4, h5⟩ := h
  refine ⟨.of_eq ?_⟩
  obtain ⟨name, qual, ⟨po, as, va, ko, kd, kw, df⟩, body, scope, globals, closure, defaults, kwd, doc, pm, an, code, ct, bt⟩ := fd
  dsimp only at h1 h2 h3 h4 h5 hd
  subst h1 h3 h4 h5 hd
  obtain ⟨_, _, as1, rfl, q1⟩ := argsS h2
  obtain ⟨_, _, rfl⟩ := args1 q1
  rfl
theorem binds_st (x y : Value) (h : Pars fd ["self", "token"]) (hd : fd.defaults = .none) : Binds s fd [x, y] [("self", x), ("token", y)] := by
  obtain ⟨h1, h2, h3, h4, h5⟩ := h
  refine ⟨.of_eq ?_⟩
  obtain ⟨name, qual, ⟨po, as, va, ko, kd, kw, df⟩, body, scope, globals, closure, defaults, kwd, doc, pm, an, code, ct, bt⟩ := fd
  dsimp only at h1 h2 h3 h4 h5 hd
  subst h1 h3 h4 h5 hd
  obtain ⟨_, _, as1, rfl, q1⟩ := argsS h2
  obtain ⟨_, _, rfl⟩ := args1 q1
  rfl
theorem binds_sf (x y : Value) (h : Pars fd ["self", "fp"]) (hd : fd.defaults = .none) : Binds s fd [x, y] [("self", x), ("fp", y)] := by
  obtain ⟨h1, h2, h3, h4, h5⟩ := h
  refine ⟨.of_eq ?_⟩
  obtain ⟨name, qual, ⟨po, as, va, ko, kd, kw, df⟩, body, scope, globals, closure, defaults, kwd, doc, pm, an, code, ct, bt⟩ := fd
  dsimp only at h1 h2 h3 h4 h5 hd
  subst h1 h3 h4 h5 hd
  obtain ⟨_, _, as1, rfl, q1⟩ := argsS h2
  obtain ⟨_, _, rfl⟩ := args1 q1
  rfl
theorem binds_w3 (x y z : Value) (h : Pars fd ["value", "what", "func"]) (hd : fd.defaults = .ref T) (ho : s.heap.get? T = some o) (hs : o.data = .seq #[d1] k) : Binds s fd [x, y, z] [("value", x), ("what", y), ("func", z)] := by
  obtain ⟨h1, h2, h3, h4, h5⟩ := h
  obtain ⟨name, qual, ⟨po, as, va, ko, kd, kw, df⟩, body, scope, globals, closure, defaults, kwd, doc, pm, an, code, ct, bt⟩ := fd
  dsimp only at h1 h2 h3 h4 h5 hd
  subst h1 h3 h4 h5 hd
  obtain ⟨_, _, as1, rfl, q1⟩ := argsS h2
  obtain ⟨_, _, as2, rfl, q2⟩ := argsS q1
  obtain ⟨_, _, rfl⟩ := args1 q2
  exact ⟨BindsTo.of_defaults rfl ho hs rfl rfl⟩
theorem binds_w2 (x y : Value) (h : Pars fd ["value", "what", "func"]) (hd : fd.defaults = .ref T) (ho : s.heap.get? T = some o) (hs : o.data = .seq #[d1] k) : Binds s fd [x, y] [("value", x), ("what", y), ("func", d1)] := by
  obtain ⟨h1, h2, h3, h4, h5⟩ := h
  obtain ⟨name, qual, ⟨po, as, va, ko, kd, kw, df⟩, body, scope, globals, closure, defaults, kwd, doc, pm, an, code, ct, bt⟩ := fd
  dsimp only at h1 h2 h3 h4 h5 hd
  subst h1 h3 h4 h5 hd
  obtain ⟨_, _, as1, rfl, q1⟩ := argsS h2
  obtain ⟨_, _, as2, rfl, q2⟩ := argsS q1
  obtain ⟨_, _, rfl⟩ := args1 q2
  exact ⟨BindsTo.of_defaults rfl ho hs rfl rfl⟩
theorem binds_pe (x y z u : Value) (h : Pars fd ["self", "msg", "filename", "lineno"]) (hd : fd.defaults = .ref T) (ho : s.heap.get? T = some o) (hs : o.data = .seq #[d1, d2] k) : Binds s fd [x, y, z, u] [("self", x), ("msg", y), ("filename", z), ("lineno", u)] := by
  obtain ⟨h1, h2, h3, h4, h5⟩ := h
  obtain ⟨name, qual, ⟨po, as, va, ko, kd, kw, df⟩, body, scope, globals, closure, defaults, kwd, doc, pm, an, code, ct, bt⟩ := fd
  dsimp only at h1 h2 h3 h4 h5 hd
  subst h1 h3 h4 h5 hd
  obtain ⟨_, _, as1, rfl, q1⟩ := argsS h2
  obtain ⟨_, _, as2, rfl, q2⟩ := argsS q1
  obtain ⟨_, _, as3, rfl, q3⟩ := argsS q2
  obtain ⟨_, _, rfl⟩ := args1 q3
  exact ⟨BindsTo.of_defaults rfl ho hs rfl rfl⟩
theorem lenS {vs : List Value} {k : Nat} (h : vs.length = k + 1) : ∃ a r, vs = a :: r ∧ r.length = k := by
  cases vs with
  | nil => cases h
  | cons a r => exact ⟨a, r, rfl, Nat.succ.inj h⟩
theorem bind_of1 {n : Str} (h : ∀ (s : Shared) x, Binds s fd [x] [(n, x)]) : ∀ s : Shared, K.In s.heap → ∀ vs : List Value, vs.length = ([n] : List Str).length → Binds s fd vs (([n] : List Str).zip vs) := fun s _ vs hv => by
  obtain ⟨x, rfl⟩ := List.length_eq_one_iff.mp hv
  exact h s x
theorem bind_of2 {n m : Str} (h : ∀ (s : Shared) x y, Binds s fd [x, y] [(n, x), (m, y)]) : ∀ s : Shared, K.In s.heap → ∀ vs : List Value, vs.length = ([n, m] : List Str).length → Binds s fd vs (([n, m] : List Str).zip vs) := fun s _ vs hv => by
  obtain ⟨x, r, rfl, hv1⟩ := lenS hv
  obtain ⟨y, rfl⟩ := List.length_eq_one_iff.mp hv1
  exact h s x y
theorem bind_of3 {n m p : Str} (h : ∀ s : Shared, K.In s.heap → ∀ x y z, Binds s fd [x, y, z] [(n, x), (m, y), (p, z)]) : ∀ s : Shared, K.In s.heap → ∀ vs : List Value, vs.length = ([n, m, p] : List Str).length → Binds s fd vs (([n, m, p] : List Str).zip vs) := fun s X vs hv => by
  obtain ⟨x, r1, rfl, hv1⟩ := lenS hv
  obtain ⟨y, r2, rfl, hv2⟩ := lenS hv1
  obtain ⟨z, rfl⟩ := List.length_eq_one_iff.mp hv2
  exact h s X x y z
end

/-- what is to be known of a function's head -/
structure FnAt (K : Frag) (fa : Addr) (fd : FuncData) (body : List Stmt) (ps : List Str) : Prop where
  at_ : ∃ oc od osl, K.lookup fa = some ⟨oc, od, .func fd, osl⟩
  glob : fd.globals = mainGlobals
  blt : fd.builtins = builtinsNs
  clos : fd.closure = []
  code : codeIn K fd.code fd.qualname = true
  body : fd.body = .stmts body
  bind : ∀ s : Shared, K.In s.heap → ∀ vs : List Value, vs.length = ps.length → Binds s fd vs (ps.zip vs)
  psN : ps.Nodup
  psK : ∀ x ∈ ps, fd.scope.names.lookup x = some .local ∨ fd.scope.names.lookup x = some .cell
  nodup : (fd.scope.names.map (·.1)).Nodup
  nofree : ∀ x ∈ fd.scope.names, x.2 ≠ .free
  coro : fd.scope.isCoroutine = false
  gen : fd.scope.isGenerator = false
  kind : fd.scope.kind = .function

noncomputable def scopeB (names : List (Str × NameKind)) : Bool := decide (names.map (·.1)).Nodup && names.all (·.2 != .free)
theorem scopeB_n {names : List (Str × NameKind)} (h : scopeB names = true) : (names.map (·.1)).Nodup := by
  unfold scopeB at h; simp only [Bool.and_eq_true, decide_eq_true_eq] at h; exact h.1
theorem scopeB_f {names : List (Str × NameKind)} (h : scopeB names = true) : ∀ x ∈ names, x.2 ≠ .free := by
  unfold scopeB at h; simp only [Bool.and_eq_true, List.all_eq_true] at h
  intro x hx e
  have := h.2 x hx
  rw [e] at this; exact absurd this (by decide)
noncomputable def psB (names : List (Str × NameKind)) (ps : List Str) : Bool := ps.all fun x => names.lookup x == some .local || names.lookup x == some .cell
theorem psB_k {names : List (Str × NameKind)} {ps : List Str} (h : psB names ps = true) : ∀ x ∈ ps, names.lookup x = some .local ∨ names.lookup x = some .cell := fun x hx => by
  unfold psB at h
  have := List.all_eq_true.mp h x hx
  rw [Bool.or_eq_true] at this
  exact this.imp (fun q => eq_of_beq q) fun q => eq_of_beq q
theorem cells_some {names : List (Str × NameKind)} {n : Nat} {x : Str} (hn : (names.map (·.1)).Nodup) (h : names.lookup x = some .cell) : ∃ c, (cellsFrom n names []).lookup x = some c := by
  obtain ⟨c, hc⟩ := cellsFrom_has names n x (mem_of_lookup h)
  exact ⟨c, lookup_of_nodup (cellsFrom_nodup names n hn) hc⟩

section
variable {M : Model} {A : Around} {E : Value → Shared → Prop} {s₀ : Shared} {env : Env}
/-- parameters are bound, the frame stays a frame -/
theorem bindParams_c (f : Str × Value → PUnit → Sem (ForInStep PUnit)) (hf : ∀ n v u, f (n, v) u = (do storeName env n v; pure (.yield ⟨⟩))) (hk : env.scope.kind = .function) :
    ∀ (binds : List (Str × Value)) (m cm : Str → Option Value) (s : Shared) (Q : PUnit → Shared → Prop), InCallC s₀ env.locals m env.cells cm s → (∃ o, s.heap.get? env.locals = some o ∧ IsFr o) →
      (∀ x ∈ binds, env.kindOf x.1 = some .local ∨ (env.kindOf x.1 = some .cell ∧ (env.cells.lookup x.1).isSome = true)) →
      (∀ s', InCallC s₀ env.locals (bindL env.kindOf binds m) env.cells (bindC env.kindOf binds cm) s' → (∃ o, s'.heap.get? env.locals = some o ∧ IsFr o) → Q ⟨⟩ s') → wpAny M A (forIn binds ⟨⟩ f) Q E s
  | [], m, cm, s, Q, x, c, _, h => by rw [List.forIn_nil]; exact wpAny_pure (h s x c)
  | (n, v) :: r, m, cm, s, Q, x, c, hkind, h => by
    rw [List.forIn_cons, hf]
    have hr : ∀ y ∈ r, env.kindOf y.1 = some .local ∨ (env.kindOf y.1 = some .cell ∧ (env.cells.lookup y.1).isSome = true) := fun y hy => hkind y (List.mem_cons_of_mem _ hy)
    obtain ⟨oL, eL, cL⟩ := c
    rcases hkind (n, v) List.mem_cons_self with hl | ⟨hl, hc⟩
    · refine wpAny_bind (wpAny_bind (storeLocal_c hl x.toInCall.ns (fun h' hn' hs' hcl => wpAny_pure ?_) (by rw [hk]; rfl)))
      have x' : InCallC s₀ env.locals (fun y => if y = n then some v else m y) env.cells cm { s with heap := h', toks := s.toks + 1 } := by
        refine ⟨⟨?_, hn', fun b o e => ?_, x.toInCall.fresh⟩, fun k c hc => ?_, x.apart, x.above⟩
        · obtain ⟨h₁, tk, rfl⟩ := x.toInCall.same
          exact ⟨h', _, rfl⟩
        · exact hs'.extBut b o (Nat.ne_of_lt (Nat.lt_of_lt_of_le (Heap.lt_size e) x.toInCall.fresh)) (x.toInCall.keep b o e)
        · exact (x.cell k c hc).sameBut hs' (Nat.ne_of_gt (x.above k c (PySem.mem_of_lookup hc)))
      obtain ⟨o', e', c'⟩ := hcl oL eL
      refine bindParams_c f hf hk r _ _ _ Q x' ⟨o', e', c'.trans cL⟩ hr fun s'' x'' => h s'' ?_
      unfold bindL bindC; rw [if_pos hl, if_pos hl]; exact x''
    · obtain ⟨c, hc⟩ := Option.isSome_iff_exists.mp hc
      have hnl : ¬ env.kindOf n = some .local := by rw [hl]; decide
      have hLc := x.above n c (PySem.mem_of_lookup hc)
      refine wpAny_bind (wpAny_bind (storeCell_c hk hl hc (x.cell n c hc) fun h' hc' hs' _ => wpAny_pure ?_))
      have x' : InCallC s₀ env.locals m env.cells (fun y => if y = n then some v else cm y) { s with heap := h' } := by
        refine ⟨⟨?_, x.toInCall.ns.sameBut hs' (Nat.ne_of_lt hLc), fun b o e => ?_, x.toInCall.fresh⟩, fun k c' hk' => ?_, x.apart, x.above⟩
        · obtain ⟨h₁, tk, rfl⟩ := x.toInCall.same
          exact ⟨h', _, rfl⟩
        · exact hs'.extBut b o (Nat.ne_of_lt (Nat.lt_trans (Nat.lt_of_lt_of_le (Heap.lt_size e) x.toInCall.fresh) hLc)) (x.toInCall.keep b o e)
        · by_cases hkn : k = n
          · subst hkn
            rw [hc] at hk'; cases hk'
            simpa using hc'
          · rw [if_neg hkn]
            exact (x.cell k c' hk').sameBut hs' fun e => hkn (name_of_addr x.apart (PySem.mem_of_lookup hk') (e ▸ PySem.mem_of_lookup hc))
      refine bindParams_c f hf hk r _ _ _ Q x' ⟨oL, hs'.extBut _ _ (Nat.ne_of_lt hLc) eL, cL⟩ hr fun s'' x'' => h s'' ?_
      unfold bindL bindC; rw [if_neg hnl, if_neg hnl]; exact x''

theorem newEnv_c {s : Shared} {scope : Scope} {globals : Addr} {binds : List (Str × Value)} {qual : Str} {func : Option Addr} {code : Value} {builtins : Addr} {Q : Env → Shared → Prop}
    (hk : scope.kind = .function)
    (hkind : ∀ x ∈ binds, scope.names.lookup x.1 = some .local ∨ (scope.names.lookup x.1 = some .cell ∧ ((cellsFrom (s.heap.objs.size + 1) scope.names []).lookup x.1).isSome = true))
    (hQ : ∀ env, env = newEnv scope s.heap.objs.size globals (cellsFrom (s.heap.objs.size + 1) scope.names []) qual func code none builtins →
      ∀ s', InCallC s env.locals (bindL env.kindOf binds fun _ => none) env.cells (bindC env.kindOf binds fun _ => none) s' → (∃ o, s'.heap.get? env.locals = some o ∧ IsFr o) → Q env s') :
    wpAny M A (newFunctionEnv scope globals [] binds qual func code none builtins) Q E s := by
  simp only [newFunctionEnv, Option.isSome_none, Bool.false_eq_true, if_false]
  refine wpAny_bind (wpAny_alloc ?_)
  refine wpAny_bind (wpAny_layCells _ (fun name kind cells => by cases hkc : kind == NameKind.cell <;> simp [hkc]) _ _ _ _ ?_)
  have ok := cellsFrom_ok scope.names (s.heap.push { cls := .type "frame", data := .dict #[] }) (s.heap.objs.size + 1) [] ⟨fun _ _ hm => (nomatch hm), List.Pairwise.nil⟩ (by rw [Heap.size_push]; exact Nat.le_refl _)
  rw [Heap.size_push] at ok
  rw [show ({ s with heap := s.heap.push { cls := .type "frame", data := .dict #[] } } : Shared).heap.objs.size = s.heap.objs.size + 1 from Heap.size_push ..]
  refine wpAny_bind (bindParams_c (s₀ := s) (env := newEnv scope s.heap.objs.size globals (cellsFrom (s.heap.objs.size + 1) scope.names []) qual func code none builtins)
    _ (fun _ _ _ => rfl) hk binds (fun _ => none) (fun _ => none) _ _
    ⟨⟨⟨_, _, rfl⟩, (Heap.Ns.new s.heap (.type "frame")).keeps (pushCells_keeps _ _), fun b o e => pushCells_keeps _ _ b o (Heap.get?_push_of_some _ e), Nat.le_refl _⟩,
      fun n c hc => (ok.empty n c (PySem.mem_of_lookup hc)).1, ok.apart, fun n c hm => (ok.empty n c hm).2⟩
    ⟨_, pushCells_keeps _ _ _ _ (Heap.get?_push_size _ rfl), rfl⟩
    hkind fun s' x c => wpAny_pure (hQ _ rfl s' x c))
end

theorem call_cells_c {prog : Program} {w : World} {A : Around} {s : Shared} {R : Result → Shared → Prop} {a : Addr} {o : Obj} {fd : FuncData} {body : List Stmt} {vals : List Value} {binds : List (Str × Value)}
    (hroom : A.depth < recursionLimit) (ho : s.heap.get? a = some o) (hdata : o.data = .func fd) (hlim : s.heap.NoLimit) (hcd : s.heap.CodeRec fd.code fd.qualname)
    (hbody : fd.body = .stmts body) (hbind : Binds s fd vals binds) (hclo : fd.closure = [])
    (hkind : ∀ x ∈ binds, fd.scope.names.lookup x.1 = some .local ∨ (fd.scope.names.lookup x.1 = some .cell ∧ ((cellsFrom (s.heap.objs.size + 1) fd.scope.names []).lookup x.1).isSome = true))
    (h : ∀ s₁, InCallC s (callEnvC fd s.heap.objs.size a).locals (bindL (callEnvC fd s.heap.objs.size a).kindOf binds fun _ => none) (callEnvC fd s.heap.objs.size a).cells
        (bindC (callEnvC fd s.heap.objs.size a).kindOf binds fun _ => none) s₁ → (∃ o, s₁.heap.get? (callEnvC fd s.heap.objs.size a).locals = some o ∧ IsFr o) →
      wpAny (model prog w) (A.deeper (callEnvC fd s.heap.objs.size a)) (execs body (callEnvC fd s.heap.objs.size a)) (fun f s' => R (.ok (.ret (match f with | .ret v => v | _ => .none))) s')
        (fun e s' => wpAny (model prog w) (A.deeper (callEnvC fd s.heap.objs.size a)) (leaving (callEnvC fd s.heap.objs.size a) e) (fun _ s'' => R (.error e) s'') (fun e' s'' => R (.error e') s'') s') s₁)
    (hco : fd.scope.isCoroutine = false) (hgen : fd.scope.isGenerator = false) (hk : fd.scope.kind = .function) :
    codeAny (model prog w) A (.call (.ref a) ⟨vals, []⟩) R s := by
  refine codeAny_call_function hroom ho hdata hco hgen hbody hcd (hbind.go _ _ _ _ ?_)
  rw [hclo]
  refine (newEnv_c hk hkind fun env he s' x c => ?_)
  subst he
  exact ⟨hlim.keeps x.toInCall.keep, codeAny_func (h s' x c)⟩

section
variable {prog : Program} {w : World} {K : Frag} {base : Heap} {n : Nat} {fa : Addr} {fd : FuncData} {body : List Stmt} {ps : List Str} {ds : List PyData} {bs : List Bnd} {res : PyData}

/-- the frame at a function's entry -/
theorem entry_st {s s₁ : Shared} {Y : List Addr} {vs : List Value} (F : FnAt K fa fd body ps) (hl : ps.length = bs.length) (hY : ∀ a ∈ Y, ∃ o, s.heap.get? a = some o) (hr : AllB Y s.heap vs bs)
    (X : InCallC s (callEnvC fd s.heap.objs.size fa).locals (bindL (callEnvC fd s.heap.objs.size fa).kindOf (ps.zip vs) fun _ => none) (callEnvC fd s.heap.objs.size fa).cells
        (bindC (callEnvC fd s.heap.objs.size fa).kindOf (ps.zip vs) fun _ => none) s₁) :
    St base Y (frameAddrs (callEnvC fd s.heap.objs.size fa)) (callEnvC fd s.heap.objs.size fa) (ps.zip bs) s.heap s₁.heap := by
  have hcl : ∀ k c, (k, c) ∈ (callEnvC fd s.heap.objs.size fa).cells → (callEnvC fd s.heap.objs.size fa).cells.lookup k = some c := fun k c hm => lookup_of_nodup (cellsFrom_nodup _ _ F.nodup) hm
  have hlen := hr.length
  have keep : ∀ b o, s.heap.get? b = some o → s₁.heap.get? b = some o := X.toInCall.keep
  have nL : s.heap.get? (callEnvC fd s.heap.objs.size fa).locals = none := none_at _
  have nF : ∀ a ∈ frameAddrs (callEnvC fd s.heap.objs.size fa), s.heap.get? a = none := fun a ha => by
    rcases List.mem_cons.mp ha with rfl | ha
    · exact nL
    · obtain ⟨⟨k, c⟩, hm, rfl⟩ := List.mem_map.mp ha
      exact Heap.get?_none_of_le (Nat.le_of_lt (X.above k c hm))
  refine ⟨⟨F.kind, F.glob, F.blt, ⟨_, X.toInCall.ns⟩, fun k c hm => ⟨_, X.cell k c (hcl k c hm)⟩, X.apart, fun k c hm => Nat.ne_of_gt (X.above k c hm), fun k hk => ?_⟩, fun a ha => ha, nF, fun a ha => ?_, fun a ha hm => ?_, .of' keep,
    fun _ => [], fun x b e => ?_, fun _ _ m => (nomatch m), fun _ _ _ _ m => (nomatch m)⟩
  · rcases hk with hk | hk
    · exact cells_some F.nodup hk
    · exact absurd rfl (F.nofree _ (mem_of_lookup hk))
  · rcases List.mem_append.mp ha with m | m
    · obtain ⟨o, e⟩ := hY a m; exact ⟨o, keep _ _ e⟩
    · rcases List.mem_cons.mp m with rfl | m
      · obtain ⟨o, _, _, e, _⟩ := X.toInCall.ns; exact ⟨o, e⟩
      · obtain ⟨⟨k, c⟩, hm, rfl⟩ := List.mem_map.mp m
        obtain ⟨o, e, _⟩ := X.cell k c (hcl k c hm); exact ⟨o, e⟩
  · obtain ⟨o, e⟩ := hY a ha; rw [nF a hm] at e; cases e
  · obtain ⟨v, hv, rv⟩ := zip_lookup hl hr e
    have hN : ((ps.zip vs).map (·.1)).Nodup := by
      have e : (ps.zip vs).map (·.1) = ps := List.map_fst_zip (by omega)
      rw [e]; exact F.psN
    have hxp : x ∈ ps := (List.of_mem_zip (PySem.mem_of_lookup e)).1
    refine ⟨v, ?_, BndOk.mono (ft := []) (fun b o e hb m => ?_) (fun b o _ _ e => keep b o e) (fun _ m => by cases m) rv⟩
    · rcases F.psK x hxp with hk | hk
      · exact .inl ⟨hk, _, X.toInCall.ns, bindL_get _ _ _ x v hv hN hk⟩
      · obtain ⟨c, hc⟩ := cells_some (n := s.heap.objs.size + 1) F.nodup hk
        refine .inr ⟨.inl hk, c, hc, ?_⟩
        have := X.cell x c hc
        rwa [bindC_get _ _ _ x v hv hN hk] at this
    · rcases List.mem_append.mp m with m | m
      · exact hb m
      · rw [nF b m] at e; cases e

theorem entry_wd {d : Nat} {A : Around} {s s₁ : Shared} {m : Str → Option Value} (F : FnAt K fa fd body ps) (W : Wd K base d A s.heap) (hn : d + 1 ≤ 500) (ns : s₁.heap.Ns (callEnvC fd s.heap.objs.size fa).locals m) (k : ∀ b o, s.heap.get? b = some o → s₁.heap.get? b = some o)
    (c : ∃ o, s₁.heap.get? (callEnvC fd s.heap.objs.size fa).locals = some o ∧ IsFr o) :
    Wd K base (d + 1) (A.deeper (callEnvC fd s.heap.objs.size fa)) s₁.heap := by
  obtain ⟨l, hl, hf, hc⟩ := W.fr
  refine ⟨W.b, fun b o e => k _ _ (W.stays b o e), W.handled, by have := W.depth; show A.depth + 1 ≤ d + 1; omega, by have := W.units; show A.units + 3 ≤ 10 * (d + 1); omega, hn, _, Around.frames_deeper hl, ?_, fun a ha => ?_⟩
  · refine .cons (by show fd.scope.kind ≠ .module; rw [F.kind]; decide) rfl ns ?_ (hf.of_keeps fun b o e _ => ⟨o, k b o e, rfl⟩)
    cases q : base.get? s.heap.objs.size with
    | none => rfl
    | some o => have := W.stays _ _ q; rw [none_at] at this; cases this
  · rcases List.mem_cons.mp (show a ∈ s.heap.objs.size :: l.filterMap (·.frame) from ha) with e | ha
    · exact e ▸ c
    · obtain ⟨o, e, q⟩ := hc a ha; exact ⟨o, k _ _ e, q⟩

theorem fnB_intro (F : FnAt K fa fd body ps) (hl : ps.length = bs.length) (hn : 1 ≤ n)
    (hb : ∀ d L, d + n ≤ 500 → Ex prog w K base (d + 1) (callEnvC fd L fa) (ps.zip bs) body (.ret res)) : FnB prog w K base n fa bs res := fun d A Y s E vs hdn W hY hr => by
  obtain ⟨oc, od, osl, hK⟩ := F.at_
  have hlen := hr.length
  have hkk : ∀ x ∈ ps.zip vs, fd.scope.names.lookup x.1 = some .local ∨ (fd.scope.names.lookup x.1 = some .cell ∧ ((cellsFrom (s.heap.objs.size + 1) fd.scope.names []).lookup x.1).isSome = true) := fun x hx => by
    have hxp : x.1 ∈ ps := (List.of_mem_zip hx).1
    rcases F.psK x.1 hxp with hk | hk
    · exact .inl hk
    · obtain ⟨c, hc⟩ := cells_some (n := s.heap.objs.size + 1) F.nodup hk
      exact .inr ⟨hk, by rw [hc]; rfl⟩
  refine wpAny_call (call_cells_c (fd := fd) W.room (W.K _ _ hK) rfl W.nolim (codeRec_of W.K F.code) F.body (F.bind s W.K vs (by omega)) F.clos hkk (fun s₁ X c => ?_) F.coro F.gen F.kind)
  obtain ⟨h₁, t₁, rfl⟩ := X.toInCall.same
  have S := entry_st (base := base) F hl hY hr X
  have W1 := entry_wd F W (by omega) X.toInCall.ns X.toInCall.keep c
  refine wpAny_mono (hb d _ hdn _ Y _ s.heap _ _ W1 W.stays S) (fun f s₂ q => ?_) fun _ _ x => x
  obtain ⟨h', tk, rfl, ⟨v, rfl, r, k⟩, C⟩ := q
  exact ⟨r, keeps_ext s h' tk k⟩

theorem fn_intro (F : FnAt K fa fd body ps) (hl : ps.length = ds.length) (hn : 1 ≤ n)
    (hb : ∀ d L, d + n ≤ 500 → Ex prog w K base (d + 1) (callEnvC fd L fa) (fzs (ps.zip ds)) body (.ret res)) : Fn prog w K base n fa ds res := fun d A Y s E vs hdn W hY hr =>
  fnB_intro (bs := ds.map Bnd.fz) F (by rw [List.length_map]; exact hl) hn (fun d L hd => by rw [fzs_zip]; exact hb d L hd) d A Y s E vs hdn W hY (allB_of hr)

/-- a call of a function of the program, in an expression -/
theorem Fn.ev {d : Nat} {env : Env} {ρ : List (Str × Bnd)} {x : Str} {p pos : Pos} {es : List Expr} (h : Fn prog w K base n fa ds res) (hd : d + n ≤ 500) (F : FnAt K fa fd body ps) (hg : nsIn K mainGlobals x = some (some (.ref fa))) (hx : env.kindOf x = some .globalImplicit)
    (he : Evs prog w K base d env ρ pos es (AllS ds)) (hdb : (x == ("__debug__" : Str)) = false := by decide) (hc : ∃ t r, backTo pos (starEach es env) = (false, t) :: r := by exact ⟨_, _, rfl⟩) : Ev prog w K base d env ρ (.Call (.Name x p) es [] pos) (IsS res) := fun A Z s E W N => by
  obtain ⟨oc, od, osl, hK⟩ := F.at_
  refine Call_Name rfl (wpAny_mono (ev_global (p := p) hg hx hdb A Z s E W N) (fun f s₁ q => ?_) fun _ _ x => x)
  obtain ⟨rfl, k1⟩ := q
  refine PySem.Calls.callWith_function (o := ⟨oc, od, .func fd, osl⟩) (fd := fd) ?_
  obtain ⟨t, rr, ht⟩ := hc
  have he' := he A Z s₁ E (W.keeps (kext k1)) (N.keeps (kext k1))
  rw [ht] at he' ⊢
  refine evalArgs_plain (wpAny_mono he' (fun vs s₂ q₂ => ?_) fun _ _ x => x)
  obtain ⟨r2, k2⟩ := q₂
  have k12 := keeps_trans k1 k2
  refine ⟨⟨(W.keeps (kext k12)).K _ _ hK, rfl⟩, ?_⟩
  refine wpAny_mono (h d A Z s₂ E vs hd (W.keeps (kext k12)) (N.keeps (kext k12)).alive r2) (fun v s₃ q₃ => ?_) fun _ _ x => x
  exact ⟨q₃.1, keeps_trans k12 q₃.2⟩
end
end Mine
end

section
open PySem PySem.W PyProof.Rows PySem.Calls
namespace Mine

section
variable {prog : Program} {w : World} {K : Frag} {base : Heap} {d : Nat} {env : Env} {ρ : List (Str × Bnd)} {e e2 l r v i : Expr} {pos p px apos : Pos} {x : Str} {F F1 F2 : List Addr → Heap → Heap → Value → Prop}

/-- a builtin over one argument -/
theorem ev_bi1 {id : String} (hg : nsIn K mainGlobals x = some none) (hb : bootBuiltins x = some (.builtin id)) (hk : env.kindOf x = some .globalImplicit) (he : Ev prog w K base d env ρ e F1) (g : Good F)
    (h : ∀ A Z (s : Shared) E a h₀, Wd K base d A s.heap → (∀ a ∈ Z, ∃ o, s.heap.get? a = some o) → Hext base h₀ s.heap → F1 Z h₀ s.heap a → wpAny (model prog w) A (call (.builtin id) [a]) (fun v s' => F Z s.heap s'.heap v ∧ Keep base s s') E s)
    (hn : x ≠ "__name__" := by decide) (hd : (x == ("__debug__" : Str)) = false := by decide) (hs : starEach [e] env = [(false, eval e env)] := by rfl) :
    Ev prog w K base d env ρ (.Call (.Name x p) [e] [] pos) F := fun A Z s E W N => by
  refine Call_Name1 (hs := hs) (wpAny_mono (ev_builtin (p := p) hg hb hk hn hd A Z s E W N) (fun f s₁ q => ?_) fun _ _ x => x)
  obtain ⟨rfl, k1⟩ := q
  refine PySem.Calls.callWith_builtin rfl (evalArgs_plain (spliced_cons (wpAny_mono (he A Z s₁ E (W.keeps (kext k1)) (N.keeps (kext k1))) (fun v s₂ q₂ => ?_) fun _ _ x => x)))
  obtain ⟨r2, k2⟩ := q₂
  have k12 := keeps_trans k1 k2
  refine spliced_nil ?_
  refine wpAny_mono (h A Z s₂ E v _ (W.keeps (kext k12)) (N.keeps (kext k12)).alive (kext k2) r2) (fun u s₃ q₃ => ?_) fun _ _ x => x
  exact ⟨g.down q₃.1 (kext k12), keeps_trans k12 q₃.2⟩
/-- over two -/
theorem ev_bi2 {id : String} (hg : nsIn K mainGlobals x = some none) (hb : bootBuiltins x = some (.builtin id)) (hk : env.kindOf x = some .globalImplicit) (he : Ev prog w K base d env ρ e F1) (he2 : Ev prog w K base d env ρ e2 F2) (g1 : Good F1) (g : Good F)
    (h : ∀ A Z (s : Shared) E a b h₀ h₁, Wd K base d A s.heap → (∀ a ∈ Z, ∃ o, s.heap.get? a = some o) → F1 Z h₀ s.heap a → F2 Z h₁ s.heap b → wpAny (model prog w) A (call (.builtin id) [a, b]) (fun v s' => F Z s.heap s'.heap v ∧ Keep base s s') E s)
    (hn : x ≠ "__name__" := by decide) (hd : (x == ("__debug__" : Str)) = false := by decide) (hs : starEach [e, e2] env = [(false, eval e env), (false, eval e2 env)] := by rfl) :
    Ev prog w K base d env ρ (.Call (.Name x p) [e, e2] [] pos) F := fun A Z s E W N => by
  refine Call_Name2 (hs := hs) (wpAny_mono (ev_builtin (p := p) hg hb hk hn hd A Z s E W N) (fun f s₁ q => ?_) fun _ _ x => x)
  obtain ⟨rfl, k1⟩ := q
  refine PySem.Calls.callWith_builtin rfl (evalArgs_plain (spliced_cons (wpAny_mono (he A Z s₁ E (W.keeps (kext k1)) (N.keeps (kext k1))) (fun v s₂ q₂ => ?_) fun _ _ x => x)))
  obtain ⟨r2, k2⟩ := q₂
  have k12 := keeps_trans k1 k2
  refine spliced_cons (wpAny_mono (he2 A Z s₂ E (W.keeps (kext k12)) (N.keeps (kext k12))) (fun v' s₃ q₃ => ?_) fun _ _ x => x)
  obtain ⟨r3, k3⟩ := q₃
  have k13 := keeps_trans k12 k3
  refine spliced_nil ?_
  refine wpAny_mono (h A Z s₃ E v v' _ _ (W.keeps (kext k13)) (N.keeps (kext k13)).alive (g1.up r2 (kext k3)) r3) (fun u s₄ q₄ => ?_) fun _ _ x => x
  exact ⟨g.down q₄.1 (kext k13), keeps_trans k13 q₄.2⟩

theorem ev_len {ds : List PyData} (hg : nsIn K mainGlobals "len" = some none) (hk : env.kindOf "len" = some .globalImplicit) (he : Ev prog w K base d env ρ e (IsL ds)) (hz : ds.length ≤ 1000000) (hs : starEach [e] env = [(false, eval e env)] := by rfl) :
    Ev prog w K base d env ρ (.Call (.Name "len" p) [e] [] pos) (IsS (.int ds.length)) :=
  ev_bi1 (hs := hs) hg (by decide +kernel : bootBuiltins "len" = some (.builtin "len")) hk he (good_S _) fun A Z s E a h₀ W al _ q => by
    obtain ⟨l, vs, rfl, h1, h2⟩ := q
    have hl := h2.length
    have hl' : vs.toArray.size = ds.length := by rw [List.size_toArray, hl]
    refine call_len_list h1.isList (by rw [hl']; omega) ?_
    rw [hl']
    exact ⟨.int _ _, keeps_tok s _⟩

theorem ev_abs {n : Int} (hg : nsIn K mainGlobals "abs" = some none) (hk : env.kindOf "abs" = some .globalImplicit) (he : Ev prog w K base d env ρ e (IsW (.int n))) (hs : starEach [e] env = [(false, eval e env)] := by rfl) :
    Ev prog w K base d env ρ (.Call (.Name "abs" p) [e] [] pos) (IsS (.int n.natAbs)) :=
  ev_bi1 (hs := hs) hg (by decide +kernel : bootBuiltins "abs" = some (.builtin "abs")) hk he (good_S _) fun A Z s E a h₀ W al _ q => by
    obtain ⟨t, rfl⟩ := rep_int q
    refine call_abs_int fun u tk => ⟨?_, keeps_tok s _⟩
    have : (if n < 0 then -n else n) = (n.natAbs : Int) := by split <;> omega
    rw [this]
    exact .int _ _

theorem ints_items {Z : List Addr} {h : Heap} : ∀ {vs : List Value} {ns : List Int}, RepAll Z h vs (ns.map PyData.int) → ∃ xs : List (Int × Tok), vs = xs.map (fun p => Value.int p.1 p.2) ∧ xs.map (·.1) = ns
  | [], [], _ => ⟨[], rfl, rfl⟩
  | v :: vs, n :: ns, .cons h1 h2 => by
    obtain ⟨t, rfl⟩ := rep_int h1
    obtain ⟨xs, rfl, e⟩ := ints_items h2
    exact ⟨(n, t) :: xs, rfl, by rw [List.map_cons, e]⟩
  | [], _ :: _, h => by cases h
  | _ :: _, [], h => by cases h

theorem ev_sum {ns : List Int} (hg : nsIn K mainGlobals "sum" = some none) (hk : env.kindOf "sum" = some .globalImplicit) (he : Ev prog w K base d env ρ e (IsL (ns.map PyData.int))) (hs : starEach [e] env = [(false, eval e env)] := by rfl) :
    Ev prog w K base d env ρ (.Call (.Name "sum" p) [e] [] pos) (IsS (.int ns.sum)) :=
  ev_bi1 (hs := hs) hg (by decide +kernel : bootBuiltins "sum" = some (.builtin "sum")) hk he (good_S _) fun A Z s E a h₀ W al _ q => by
    obtain ⟨l, vs, rfl, h1, h2⟩ := q
    obtain ⟨xs, rfl, e⟩ := ints_items h2
    have hI : (xs.map (fun p => Value.int p.1 p.2)).toArray = intItems xs.toArray := by simp [intItems]
    rw [hI] at h1
    refine sum_intListG W.handled h1.isList fun h' tk t' k => ?_
    have e2 : preSum (numAt xs.toArray) xs.toArray.size = ns.sum := by
      rw [preSum_eq, List.take_of_length_le (by simp), ← e]
    rw [e2]
    exact ⟨.int _ _, keeps_heap s h' tk k⟩

/-- the greatest of some ints -/
noncomputable def maxI : List Int → Int
  | [] => 0
  | n :: r => r.foldl max n
theorem maxI_ge : ∀ (r : List Int) (n : Int), n ≤ r.foldl max n ∧ ∀ a ∈ r, a ≤ r.foldl max n
  | [], n => ⟨Int.le_refl _, fun _ m => nomatch m⟩
  | b :: r, n => by
    obtain ⟨h1, h2⟩ := maxI_ge r (max n b)
    refine ⟨Int.le_trans (Int.le_max_left _ _) h1, fun a ha => ?_⟩
    rcases List.mem_cons.mp ha with rfl | ha
    · exact Int.le_trans (Int.le_max_right _ _) h1
    · exact h2 a ha
theorem maxI_mem : ∀ (r : List Int) (n : Int), r.foldl max n = n ∨ r.foldl max n ∈ r
  | [], n => .inl rfl
  | b :: r, n => by
    rw [List.foldl_cons]
    rcases maxI_mem r (max n b) with h | h
    · rw [h]
      rcases Int.le_total n b with q | q
      · right; rw [Int.max_eq_right q]; exact .head _
      · left; exact Int.max_eq_left q
    · exact .inr (.tail _ h)
theorem ev_max {ns : List Int} (hg : nsIn K mainGlobals "max" = some none) (hk : env.kindOf "max" = some .globalImplicit) (he : Ev prog w K base d env ρ e (IsL (ns.map PyData.int))) (hne : ns ≠ []) (hs : starEach [e] env = [(false, eval e env)] := by rfl) :
    Ev prog w K base d env ρ (.Call (.Name "max" p) [e] [] pos) (IsS (.int (maxI ns))) :=
  ev_bi1 (hs := hs) hg (by decide +kernel : bootBuiltins "max" = some (.builtin "max")) hk he (good_S _) fun A Z s E a h₀ W al _ q => by
    obtain ⟨l, vs, rfl, h1, h2⟩ := q
    obtain ⟨xs, rfl, e⟩ := ints_items h2
    have hI : (xs.map (fun p => Value.int p.1 p.2)).toArray = intItems xs.toArray := by simp [intItems]
    rw [hI] at h1
    have hlen : 0 < xs.length := by
      cases xs with
      | nil => simp at e; exact absurd e hne
      | cons _ _ => simp
    refine max_intList W.handled h1.isList (by simpa using hlen) fun v h' tk hv k => ?_
    obtain ⟨t, rfl⟩ := intItems_at hv
    refine ⟨?_, keeps_heap s h' tk k⟩
    obtain ⟨q1, q2⟩ := argBest_gt (numAt xs.toArray) (xs.toArray.size - 1)
    have key : numAt xs.toArray (argBest (fun i j => decide (numAt xs.toArray i > numAt xs.toArray j)) (xs.toArray.size - 1)) = maxI ns := by
      generalize hg : argBest (fun i j => decide (numAt xs.toArray i > numAt xs.toArray j)) (xs.toArray.size - 1) = g at q1 q2
      have num : ∀ j, j < xs.length → numAt xs.toArray j = ns.getD j 0 := fun j hj => by
        unfold numAt
        rw [← e]
        simp [hj]
      have hlen' : ns.length = xs.length := by rw [← e, List.length_map]
      have hs : xs.toArray.size = xs.length := by simp
      rw [hs] at q1 q2
      have hg1 : g < xs.length := by omega
      cases ns with
      | nil => exact absurd rfl hne
      | cons n r =>
        have hm := maxI_mem r n
        have hge := maxI_ge r n
        have up : numAt xs.toArray g ≤ maxI (n :: r) := by
          rw [num g hg1]
          have : (n :: r).getD g 0 ∈ n :: r := by
            rw [List.getD_eq_getElem?_getD, List.getElem?_eq_getElem (by omega), Option.getD_some]; exact List.getElem_mem _
          rcases List.mem_cons.mp this with h | h
          · rw [h]; exact hge.1
          · exact hge.2 _ h
        have dn : maxI (n :: r) ≤ numAt xs.toArray g := by
          have : maxI (n :: r) ∈ n :: r := by
            rcases hm with h | h
            · show r.foldl max n ∈ _; rw [h]; exact .head _
            · exact .tail _ h
          obtain ⟨j, hj, ej⟩ := List.getElem_of_mem this
          have := q2 j (by omega)
          rw [num j (by omega), List.getD_eq_getElem?_getD, List.getElem?_eq_getElem hj, Option.getD_some, ej] at this
          exact this
        exact Int.le_antisymm up dn
    rw [key]
    exact .int _ _

theorem ev_min {a b : Int} (hg : nsIn K mainGlobals "min" = some none) (hk : env.kindOf "min" = some .globalImplicit) (he : Ev prog w K base d env ρ e (IsW (.int a))) (he2 : Ev prog w K base d env ρ e2 (IsW (.int b))) (hs : starEach [e, e2] env = [(false, eval e env), (false, eval e2 env)] := by rfl) :
    Ev prog w K base d env ρ (.Call (.Name "min" p) [e, e2] [] pos) (IsS (.int (min a b))) :=
  ev_bi2 (hs := hs) hg (by decide +kernel : bootBuiltins "min" = some (.builtin "min")) hk he he2 (good_W _) (good_S _) fun A Z s E x y _ _ W al q1 q2 => by
    obtain ⟨t, rfl⟩ := rep_int q1
    obtain ⟨u, rfl⟩ := rep_int q2
    refine min_two_ints W.handled fun h' tk k => ⟨?_, keeps_heap s h' tk k⟩
    by_cases h : b < a
    · rw [if_pos h, Int.min_eq_right (Int.le_of_lt h)]; exact .int _ _
    · rw [if_neg h, Int.min_eq_left (Int.not_lt.mp h)]; exact .int _ _

theorem ev_str_of {n : Int} (hg : nsIn K mainGlobals "str" = some none) (hk : env.kindOf "str" = some .globalImplicit) (he : Ev prog w K base d env ρ e (IsW (.int n))) (hn : n.natAbs.log2 < 1920) (hs : starEach [e] env = [(false, eval e env)] := by rfl) :
    Ev prog w K base d env ρ (.Call (.Name "str" p) [e] [] pos) (IsS (.str (toString n))) := fun A Z s E W N => by
  refine Call_Name1 (hs := hs) (wpAny_mono (ev_builtin (p := p) hg (by decide +kernel : bootBuiltins "str" = some (.type "str")) hk (by decide) (by decide) A Z s E W N) (fun f s₁ q => ?_) fun _ _ x => x)
  obtain ⟨rfl, k1⟩ := q
  refine PySem.callWith_type1 (wpAny_mono (he A Z s₁ E (W.keeps (kext k1)) (N.keeps (kext k1))) (fun v s₂ q₂ => ?_) fun _ _ x => x)
  obtain ⟨r2, k2⟩ := q₂
  obtain ⟨t, rfl⟩ := rep_int r2
  exact PySem.P.str_of_int hn ⟨.str _ _, keeps_trans (keeps_trans k1 k2) (keeps_tok s₂ _)⟩

theorem strs_are {Z : List Addr} {h : Heap} : ∀ {vs : List Value} {ys : List Str}, RepAll Z h vs (ys.map PyData.str) → StrsAre vs ys
  | [], [], _ => .nil
  | v :: vs, n :: ns, .cons h1 h2 => by
    obtain ⟨t, rfl⟩ := rep_str h1
    exact .cons _ _ (strs_are h2)
  | [], _ :: _, h => by cases h
  | _ :: _, [], h => by cases h

/-- 'x'.join(e) -/
theorem ev_join {k : Nat} {ys : List Str} (he : Ev prog w K base d env ρ e (IsL (ys.map PyData.str))) (hok : (ys.map (·.length)).sum + ys.length * x.length ≤ 16777216)
    (hline : (apos.endLine == pos.line) = true) (hbase : attributeBase (.Constant (.str x) k p) "join" env (eval (.Constant (.str x) k p) env) = eval (.Constant (.str x) k p) env := by rfl) (hs : starEach [e] env = [(false, eval e env)] := by rfl) :
    Ev prog w K base d env ρ (.Call (.Attribute (.Constant (.str x) k p) "join" apos) [e] [] pos) (IsS (.str (Txt.join x ys))) := fun A Z s E W N => by
  refine Call_method1 hbase hs hline (Constant_str ?_)
  refine ⟨"str", "str.join", F.plainAttrs_str, F.slot_str_join, F.type_str_join, typeIs_str _ _ _, (fun _ e => nomatch e), ?_⟩
  have k1 := keeps_tok (base := base) s (s.toks + 1)
  refine PySem.Calls.callWith_builtin rfl (evalArgs_plain (spliced_cons (wpAny_mono (he A Z _ E (W.keeps (kext k1)) (N.keeps (kext k1))) (fun v s₂ q₂ => ?_) fun _ _ x => x)))
  obtain ⟨⟨l, vs, rfl, h1, h2⟩, k2⟩ := q₂
  exact spliced_nil (join_list h1.isList (strs_are h2) hok fun t' k => ⟨.str _ _, keeps_trans (keeps_trans k1 k2) (keeps_tok s₂ _)⟩)

/-- l.index(e) -/
theorem ev_index {ds : List PyData} {dx : PyData} {j : Nat} (hl : Ev prog w K base d env ρ l (IsL ds)) (he : Ev prog w K base d env ρ e (IsW dx)) (hds : OkD 9 (.list ds)) (hdx : OkD 9 dx) (hj : j < ds.length) (hz : ds.length ≤ 1000000)
    (hit : PyData.eqv ds[j] dx = true) (hno : ∀ m (hm : m < ds.length), m < j → PyData.eqv ds[m] dx = false)
    (hline : (apos.endLine == pos.line) = true) (hbase : attributeBase l "index" env (eval l env) = eval l env := by rfl) (hs : starEach [e] env = [(false, eval e env)] := by rfl) :
    Ev prog w K base d env ρ (.Call (.Attribute l "index" apos) [e] [] pos) (IsS (.int j)) := fun A Z s E W N => by
  refine Call_method1 hbase hs hline (wpAny_mono (hl A Z s E W N) (fun v s₁ q => ?_) fun _ _ x => x)
  obtain ⟨⟨l, vs, rfl, h1, h2⟩, k1⟩ := q
  refine ⟨"list", "list.index", F.plainAttrs_list, F.slot_list_index, F.type_list_index, h1.isList.typeIs, (fun a e => by cases e; obtain ⟨o, _, q1, _, q2, _⟩ := h1; exact ⟨o, q1, q2⟩), ?_⟩
  refine PySem.Calls.callWith_builtin rfl (evalArgs_plain (spliced_cons (wpAny_mono (he A Z _ E (W.keeps (kext k1)) (N.keeps (kext k1))) (fun v s₂ q₂ => ?_) fun _ _ x => x)))
  obtain ⟨r2, k2⟩ := q₂
  refine spliced_nil ?_
  obtain ⟨⟨cls, dd, data, sl⟩, n, ho, hc, _, hd⟩ := plainL_at h1 fun o hc e => (kext k2).ex (fun m => nomatch m) hc e
  simp only at hc hd
  subst hc hd
  have r3 := h2.keeps (kext k2)
  obtain ⟨as, ra⟩ := r3.reads
  obtain ⟨bs, rx⟩ := r2.reads
  have hlen := r3.length
  have hcl : PyData.canLayAll0 ds = true := hds.1
  have hdep : PyData.depthAll ds ≤ 9 := Nat.le_of_succ_le (show PyData.depthAll ds + 1 ≤ 9 from hds.2)
  have hmap := SeqAt.readsAll_map ds vs as hcl ra
  have hat : ∀ m (hm : m < vs.length), SeqAt.readOf s₂.heap vs[m] = ds[m]'(by omega) := fun m hm => by
    have : (vs.map (SeqAt.readOf s₂.heap))[m]'(by simpa using hm) = ds[m]'(by omega) := by simp only [hmap]
    simpa using this
  have hu := (W.keeps (kext (keeps_trans k1 k2))).units
  have hsm := W.small
  refine call_meets PySem.F.slot_list_index ⟨_, ho, rfl⟩ PySem.F.entry_list_index (PySem.F.args_list_index_2 _ _)
    (PySem.SeqAt.list_indexAt l vs.toArray n dd sl v (fun y => PyData.eqv (SeqAt.readOf s₂.heap y) dx) j (by simp; omega) (by omega) ?_ ?_) ⟨ho, SeqAt.items_eqAt (by simpa using ra) rx hcl hdx.1 ?_, ⟨.int _ _, keeps_trans (keeps_trans k1 k2) (keeps_tok s₂ _)⟩⟩
  · simp only [List.getElem_toArray]; rw [hat j (by omega)]; exact hit
  · intro m hm hlt
    simp only [List.size_toArray] at hm
    simp only [List.getElem_toArray]; rw [hat m hm]; exact hno m (by omega) hlt
  · have : A.units + 1 + min (PyData.depthAll ds) dx.depth < 9900 := by
      have := Nat.min_le_left (PyData.depthAll ds) dx.depth
      omega
    exact this
end
end Mine
end

section
open PySem PySem.W PyProof.Rows PySem.Calls
namespace Mine

/-! sorting pairs of ints -/
noncomputable def runT (lt : Nat → Nat → Bool) {α : Type} : KasT α → α
  | .ret a => a
  | .ask i j k => runT lt (k (lt i j))
noncomputable def okT (n : Nat) (lt : Nat → Nat → Bool) {α : Type} : KasT α → Bool
  | .ret _ => true
  | .ask i j k => decide (i < n) && decide (j < n) && okT n lt (k (lt i j))
theorem runT_wp {α : Type} {n : Nat} {cmp : Nat → Nat → (Bool → Shared → Prop) → Shared → Prop} {lt : Nat → Nat → Bool} {G : α → Shared → Prop} {s : Shared} (h : ∀ i j C, i < n → j < n → C (lt i j) s → cmp i j C s) : ∀ t : KasT α, okT n lt t = true → G (runT lt t) s → t.kasWp cmp G s
  | .ret a, _, g => g
  | .ask i j k, ok, g => by
    simp only [okT, Bool.and_eq_true, decide_eq_true_eq] at ok
    exact h i j _ ok.1.1 ok.1.2 (runT_wp h (k (lt i j)) ok.2 g)
theorem runT_congr {α : Type} {n : Nat} {lt lt' : Nat → Nat → Bool} (h : ∀ i j, i < n → j < n → lt i j = lt' i j) : ∀ t : KasT α, okT n lt t = true → runT lt t = runT lt' t ∧ okT n lt' t = true
  | .ret a, _ => ⟨rfl, rfl⟩
  | .ask i j k, ok => by
    simp only [okT, Bool.and_eq_true, decide_eq_true_eq] at ok
    have e := h i j ok.1.1 ok.1.2
    obtain ⟨q1, q2⟩ := runT_congr h (k (lt i j)) ok.2
    refine ⟨by show runT lt (k (lt i j)) = runT lt' (k (lt' i j)); rw [← e]; exact q1, ?_⟩
    simp only [okT, Bool.and_eq_true, decide_eq_true_eq]
    rw [← e]
    exact ⟨ok.1, q2⟩

noncomputable def inserts (x : Nat) : List Nat → List (List Nat)
  | [] => [[x]]
  | y :: r => (x :: y :: r) :: (inserts x r).map (y :: ·)
noncomputable def permsOf : List Nat → List (List Nat)
  | [] => [[]]
  | x :: r => (permsOf r).flatMap (inserts x)
theorem mem_inserts (x : Nat) : ∀ (a b : List Nat), a ++ x :: b ∈ inserts x (a ++ b)
  | [], [] => .head _
  | [], y :: r => .head _
  | y :: a, b => .tail _ (List.mem_map.mpr ⟨_, mem_inserts x a b, rfl⟩)
theorem mem_permsOf : ∀ {l r : List Nat}, r.Perm l → r ∈ permsOf l
  | [], r, h => by rw [h.eq_nil]; exact .head _
  | x :: l, r, h => by
    have hx : x ∈ r := h.symm.subset (.head _)
    obtain ⟨a, b, rfl⟩ := List.append_of_mem hx
    have : (a ++ b).Perm l := (List.perm_cons x).mp ((List.perm_middle.symm).trans h)
    exact List.mem_flatMap.mpr ⟨_, mem_permsOf this, mem_inserts x a b⟩
noncomputable def sortOk (n : Nat) (r : List Nat) : Bool :=
  let lt := fun i j => decide (r.getD i 0 < r.getD j 0)
  let p := (runT lt (kas_sort n)).toList
  okT n lt (kas_sort n) && p.all (fun i => decide (i < n)) && decide (p.map (r.getD · 0) = List.range n)
/-! the check of all orders of six, in parts -/
noncomputable def part6 (i : Nat) : List (List Nat) := ((permsOf (List.range 6)).drop (90 * i)).take 90
theorem sortOk_few : ∀ n ∈ [2, 3, 4, 5], ∀ r ∈ permsOf (List.range n), sortOk n r = true := by decide +kernel
theorem sortOk_6_0 : ∀ r ∈ part6 0, sortOk 6 r = true := by decide +kernel
theorem sortOk_6_1 : ∀ r ∈ part6 1, sortOk 6 r = true := by decide +kernel
theorem sortOk_6_2 : ∀ r ∈ part6 2, sortOk 6 r = true := by decide +kernel
theorem sortOk_6_3 : ∀ r ∈ part6 3, sortOk 6 r = true := by decide +kernel
theorem sortOk_6_4 : ∀ r ∈ part6 4, sortOk 6 r = true := by decide +kernel
theorem sortOk_6_5 : ∀ r ∈ part6 5, sortOk 6 r = true := by decide +kernel
theorem sortOk_6_6 : ∀ r ∈ part6 6, sortOk 6 r = true := by decide +kernel
theorem sortOk_6_7 : ∀ r ∈ part6 7, sortOk 6 r = true := by decide +kernel
theorem part_rest {p : List Nat → Prop} (l : List (List Nat)) (i : Nat) (h1 : ∀ r ∈ (l.drop (90 * i)).take 90, p r) (h2 : ∀ r ∈ l.drop (90 * (i + 1)), p r) : ∀ r ∈ l.drop (90 * i), p r := fun r hr => by
  rw [← List.take_append_drop 90 (l.drop (90 * i)), List.drop_drop] at hr
  rcases List.mem_append.mp hr with hr | hr
  · exact h1 r hr
  · exact h2 r (by rw [Nat.mul_succ]; exact hr)
theorem permsOf_len : (permsOf (List.range 6)).length = 720 := by decide +kernel
theorem sortOk_six : ∀ r ∈ permsOf (List.range 6), sortOk 6 r = true := by
  have rest := fun i => part_rest (p := fun r => sortOk 6 r = true) (permsOf (List.range 6)) i
  have h8 : ∀ r ∈ (permsOf (List.range 6)).drop (90 * (7 + 1)), sortOk 6 r = true := fun r hr => by
    rw [List.drop_eq_nil_of_le (Nat.le_of_eq permsOf_len)] at hr
    cases hr
  have h0 := rest 0 sortOk_6_0 (rest 1 sortOk_6_1 (rest 2 sortOk_6_2 (rest 3 sortOk_6_3 (rest 4 sortOk_6_4 (rest 5 sortOk_6_5 (rest 6 sortOk_6_6 (rest 7 sortOk_6_7 h8)))))))
  exact fun r hr => h0 r (by rw [Nat.mul_zero, List.drop_zero]; exact hr)
theorem sortOk_all (n : Nat) (hn : n ∈ [2, 3, 4, 5, 6]) : ∀ r ∈ permsOf (List.range n), sortOk n r = true := by
  rcases List.mem_append.mp (show n ∈ [2, 3, 4, 5] ++ [6] from hn) with h | h
  · exact sortOk_few n h
  · rw [List.mem_singleton.mp h]; exact sortOk_six

noncomputable def lexB (p q : Int × Int) : Bool := if p.1 = q.1 then decide (p.2 < q.2) else decide (p.1 < q.1)
noncomputable def LexLt (p q : Int × Int) : Prop := p.1 < q.1 ∨ (p.1 = q.1 ∧ p.2 < q.2)
theorem lexB_iff {p q : Int × Int} : lexB p q = true ↔ LexLt p q := by
  unfold lexB LexLt
  by_cases h : p.1 = q.1
  · rw [if_pos h, decide_eq_true_eq]
    exact ⟨fun x => .inr ⟨h, x⟩, fun x => x.elim (fun y => absurd h (Int.ne_of_lt y)) fun y => y.2⟩
  · rw [if_neg h, decide_eq_true_eq]
    exact ⟨.inl, fun x => x.elim id fun y => absurd y.1 h⟩
theorem lex_irrefl (p : Int × Int) : ¬ LexLt p p := fun h => h.elim (fun x => Int.lt_irrefl _ x) fun x => Int.lt_irrefl _ x.2
theorem lex_asymm {p q : Int × Int} (h : LexLt p q) : ¬ LexLt q p := fun g => by
  unfold LexLt at h g
  omega
noncomputable def pairD (p : Int × Int) : PyData := .tuple [.int p.1, .int p.2]

noncomputable def TwoInts (h : Heap) (v : Value) (p : Int × Int) : Prop := ∃ a o t u n, v = .ref a ∧ h.get? a = some o ∧ o.cls = .type "tuple" ∧ o.data = .seq #[.int p.1 t, .int p.2 u] n
theorem TwoInts.keeps {h h' : Heap} {v : Value} {p : Int × Int} (x : TwoInts h v p) (k : ∀ b o, h.get? b = some o → h'.get? b = some o) : TwoInts h' v p := let ⟨a, o, t, u, n, e1, e2, e3⟩ := x; ⟨a, o, t, u, n, e1, k _ _ e2, e3⟩
theorem twoInts_of {Z : List Addr} {h : Heap} {v : Value} {p : Int × Int} (r : Rep Z h v (pairD p)) : TwoInts h v p := by
  cases r with
  | tuple ha ht hr =>
    obtain ⟨o, ho, hc, n, hd⟩ := ht
    cases hr with
    | cons r1 hr =>
      cases hr with
      | cons r2 hr =>
        cases hr
        obtain ⟨t, rfl⟩ := rep_int r1
        obtain ⟨u, rfl⟩ := rep_int r2
        exact ⟨_, o, t, u, n, rfl, ho, hc, hd⟩

section
variable {prog : Program} {w : World} {A : Around} {E : Value → Shared → Prop} {s : Shared}

theorem lt_pairs {v u : Value} {p q : Int × Int} {Q : Bool → Shared → Prop} (hv : TwoInts s.heap v p) (hu : TwoInts s.heap u q) (h : Q (lexB p q) s) : wpAny (model prog w) A (keyLt' (tuples' true) v u) Q E s := by
  obtain ⟨a, o, t1, t2, n, rfl, ho, hc, hd⟩ := hv
  obtain ⟨b, o', u1, u2, n', rfl, ho', hc', hd'⟩ := hu
  refine kat_lt ho hd ho' hd' ?_
  show KatLex prog w A true (decide (2 < 2)) Q [(.int p.1 t1, .int q.1 u1), (.int p.2 t2, .int q.2 u2)] 0 s
  unfold lexB at h
  refine kat_cons (wpAny_eqBool_int ?_)
  by_cases e : p.1 = q.1
  · rw [if_pos e] at h
    rw [show (p.1 == q.1) = true from beq_iff_eq.mpr e]
    refine kat_yes (kat_cons (wpAny_eqBool_int ?_))
    by_cases e2 : p.2 = q.2
    · rw [show (p.2 == q.2) = true from beq_iff_eq.mpr e2]
      refine kat_yes (kat_nil ?_)
      have : decide (p.2 < q.2) = false := decide_eq_false (by omega)
      rw [this] at h
      exact h
    · rw [show (p.2 == q.2) = false from beq_false_of_ne e2]
      exact kat_no (kat_one _ _ (PySem.P.lt_int h))
  · rw [if_neg e] at h
    rw [show (p.1 == q.1) = false from beq_false_of_ne e]
    exact kat_no (oneLt_int h)

noncomputable def AllTwo (h : Heap) : List Value → List (Int × Int) → Prop
  | [], [] => True
  | v :: vs, p :: ps => TwoInts h v p ∧ AllTwo h vs ps
  | _, _ => False
theorem AllTwo.keeps {h h' : Heap} (k : ∀ b o, h.get? b = some o → h'.get? b = some o) : ∀ {vs : List Value} {ps : List (Int × Int)}, AllTwo h vs ps → AllTwo h' vs ps
  | [], [], _ => trivial
  | _ :: _, _ :: _, ⟨a, b⟩ => ⟨a.keeps k, b.keeps k⟩
  | [], _ :: _, x => x.elim
  | _ :: _, [], x => x.elim
theorem AllTwo.length {h : Heap} : ∀ {vs : List Value} {ps : List (Int × Int)}, AllTwo h vs ps → vs.length = ps.length
  | [], [], _ => rfl
  | _ :: _, _ :: _, ⟨a, b⟩ => by simp [b.length]
  | [], _ :: _, x => x.elim
  | _ :: _, [], x => x.elim
theorem AllTwo.get {h : Heap} : ∀ {vs : List Value} {ps : List (Int × Int)} (i : Nat) (hi : i < vs.length), AllTwo h vs ps → TwoInts h (vs.getD i .none) (ps.getD i (0, 0))
  | _ :: _, _ :: _, 0, _, ⟨a, b⟩ => a
  | _ :: vs, _ :: ps, i + 1, hi, ⟨a, b⟩ => by simpa using b.get i (by simpa using hi)
  | [], _, i, hi, _ => by simp at hi
  | _ :: _, [], _, _, x => x.elim
theorem allTwo_of {Z : List Addr} {h : Heap} : ∀ {vs : List Value} {ps : List (Int × Int)}, RepAll Z h vs (ps.map pairD) → AllTwo h vs ps
  | [], [], _ => trivial
  | v :: vs, p :: ps, .cons a b => ⟨twoInts_of a, allTwo_of b⟩
  | [], _ :: _, x => by cases x
  | _ :: _, [], x => by cases x
theorem AllTwo.tups {h : Heap} : ∀ {vs : List Value} {ps : List (Int × Int)}, AllTwo h vs ps → ∃ fs, KatTups h vs fs ∧ fs.length = ps.length ∧ ∀ f ∈ fs, ∃ i t, f = .int i t
  | [], [], _ => ⟨[], trivial, rfl, fun _ m => nomatch m⟩
  | v :: vs, p :: ps, ⟨⟨a, o, t, u, n, e1, e2, e3, e4⟩, b⟩ => by
    obtain ⟨fs, q1, q2, q3⟩ := b.tups
    subst e1
    exact ⟨_ :: fs, KatTups.cons e2 e3 e4 (f := .int p.1 t) rfl q1, by simp [q2], fun f hf => (List.mem_cons.mp hf).elim (fun e => ⟨_, _, e⟩) (q3 f)⟩
  | [], _ :: _, x => x.elim
  | _ :: _, [], x => x.elim

/-- where a pair stands in the sorted list -/
theorem perm_rank {ps L : List (Int × Int)} (hp : L.Perm ps) (hs : L.Pairwise LexLt) : ∃ r : List Nat, r.Perm (List.range ps.length) ∧ ∀ i, i < ps.length → r.getD i 0 < L.length ∧ ps.getD i (0, 0) = L.getD (r.getD i 0) (0, 0) := by
  have nd : L.Nodup := hs.imp fun {a b} h e => by subst e; exact lex_irrefl a h
  refine ⟨ps.map (L.idxOf ·), ?_, fun i hi => ?_⟩
  · have e : L.map (L.idxOf ·) = List.range L.length := by
      apply List.ext_getElem
      · simp
      · intro i h1 h2
        simp only [List.getElem_map, List.getElem_range]
        exact nd.idxOf_getElem i (by simpa using h1)
    have h1 : (L.map (L.idxOf ·)).Perm (ps.map (L.idxOf ·)) := hp.map _
    rw [e, hp.length_eq] at h1
    exact h1.symm
  · have hm : ps[i] ∈ L := hp.symm.subset (List.getElem_mem hi)
    have e1 : (ps.map (L.idxOf ·)).getD i 0 = L.idxOf ps[i] := by
      rw [List.getD_eq_getElem?_getD, List.getElem?_map, List.getElem?_eq_getElem hi]; rfl
    have hlt : L.idxOf ps[i] < L.length := List.idxOf_lt_length_iff.mpr hm
    rw [e1]
    refine ⟨hlt, ?_⟩
    rw [List.getD_eq_getElem?_getD, List.getElem?_eq_getElem hi, Option.getD_some, List.getD_eq_getElem?_getD, List.getElem?_eq_getElem hlt, Option.getD_some, List.getElem_idxOf]

theorem sort_run {ps L : List (Int × Int)} (hp : L.Perm ps) (hs : L.Pairwise LexLt) (h2 : 2 ≤ ps.length) (h6 : ps.length ≤ 6) :
    let lt := fun i j => lexB (ps.getD i (0, 0)) (ps.getD j (0, 0))
    okT ps.length lt (kas_sort ps.length) = true ∧ (∀ i ∈ (runT lt (kas_sort ps.length)).toList, i < ps.length) ∧ (runT lt (kas_sort ps.length)).toList.map (fun i => ps.getD i (0, 0)) = L := by
  intro lt
  obtain ⟨r, h1, h3⟩ := perm_rank hp hs
  have ok := sortOk_all ps.length (by have : ps.length = 2 ∨ ps.length = 3 ∨ ps.length = 4 ∨ ps.length = 5 ∨ ps.length = 6 := by omega
                                      rcases this with h | h | h | h | h <;> rw [h] <;> decide) r (mem_permsOf h1)
  simp only [sortOk, Bool.and_eq_true, decide_eq_true_eq, List.all_eq_true] at ok
  obtain ⟨⟨ok1, ok2⟩, ok3⟩ := ok
  have hlt : ∀ i j, i < ps.length → j < ps.length → decide (r.getD i 0 < r.getD j 0) = lt i j := fun i j hi hj => by
    obtain ⟨a1, a2⟩ := h3 i hi
    obtain ⟨b1, b2⟩ := h3 j hj
    have pw : ∀ x y, x < y → (hy : y < L.length) → LexLt (L.getD x (0, 0)) (L.getD y (0, 0)) := fun x y hxy hy => by
      rw [List.getD_eq_getElem?_getD, List.getElem?_eq_getElem (by omega), Option.getD_some, List.getD_eq_getElem?_getD, List.getElem?_eq_getElem hy, Option.getD_some]
      exact List.pairwise_iff_getElem.mp hs x y (by omega) hy hxy
    show _ = lexB _ _
    rw [a2, b2]
    rcases Nat.lt_trichotomy (r.getD i 0) (r.getD j 0) with h | h | h
    · rw [decide_eq_true h, lexB_iff.mpr (pw _ _ h b1)]
    · rw [h]
      have : lexB (L.getD (r.getD j 0) (0, 0)) (L.getD (r.getD j 0) (0, 0)) = false := by
        cases q : lexB (L.getD (r.getD j 0) (0, 0)) (L.getD (r.getD j 0) (0, 0)) with
        | false => rfl
        | true => exact absurd (lexB_iff.mp q) (lex_irrefl _)
      rw [this, decide_eq_false (Nat.lt_irrefl _)]
    · have g := pw _ _ h a1
      have : lexB (L.getD (r.getD i 0) (0, 0)) (L.getD (r.getD j 0) (0, 0)) = false := by
        cases q : lexB (L.getD (r.getD i 0) (0, 0)) (L.getD (r.getD j 0) (0, 0)) with
        | false => rfl
        | true => exact absurd (lexB_iff.mp q) (lex_asymm g)
      rw [this, decide_eq_false (by omega)]
  obtain ⟨q1, q2⟩ := runT_congr hlt (kas_sort ps.length) ok1
  have ok2' : ∀ i ∈ (runT lt (kas_sort ps.length)).toList, i < ps.length := fun i hi => by rw [← q1] at hi; exact ok2 i hi
  refine ⟨q2, ok2', ?_⟩
  have e : (runT lt (kas_sort ps.length)).toList.map (fun i => ps.getD i (0, 0)) = ((runT lt (kas_sort ps.length)).toList.map (r.getD · 0)).map (fun i => L.getD i (0, 0)) := by
    rw [List.map_map]
    exact List.map_congr_left fun i hi => (h3 i (ok2' i hi)).2
  rw [e, ← q1, ok3]
  apply List.ext_getElem
  · simp [hp.length_eq]
  · intro i h1 h2
    simp only [List.getElem_map, List.getElem_range]
    rw [List.getD_eq_getElem?_getD, List.getElem?_eq_getElem h2, Option.getD_some]

/-- the sort of a list of pairs -/
theorem list_sort_pairs {a : Addr} {vs : List Value} {ps L : List (Int × Int)} {n : Nat} {P : PySem.Fin → Shared → Prop} (ho : s.heap.get? a = some (seqObj "list" vs.toArray n)) (hT : AllTwo s.heap vs ps) (hp : L.Perm ps) (hs : L.Pairwise LexLt) (h6 : ps.length ≤ 6)
    (h : ∀ idx : List Nat, (∀ i ∈ idx, i < ps.length) → idx.map (fun i => ps.getD i (0, 0)) = L → P (.done (.ret .none)) { s with heap := sortedHeap s.heap a vs (List.toArray (idx.map fun i => vs.getD i Value.none)) }) :
    wpAny (model prog w) A (Builtin.«list.sort» ⟨[.ref a], []⟩) P E s := by
  have hlen := hT.length
  rw [list_sort_plain]
  have ha : a < s.heap.objs.size := Heap.lt_size ho
  refine wpAny_bind (listItems_at ho rfl ?_)
  refine wpAny_bind (listUpdate_at ho rfl ?_ (by rw [List.size_toArray, sizeLine_eq]; omega) (Nat.zero_le _))
  obtain ⟨e1, ho1⟩ : ∃ e1, (s.heap.update a (Obj.mapSeq fun _ => #[])).get? a = some (seqObj "list" #[] e1) := ⟨_, get?_update_seq ho (fun _ => #[])⟩
  refine wpAny_bind (seqEpoch_at ho1 rfl ?_)
  refine wpAny_bind (wpAny_newTuple ?_ (by show vs.length ≤ _; rw [sizeLine_eq]; omega))
  refine wpAny_bind (wpAny_newList ?_ (Nat.zero_le _))
  refine wpAny_holding ?_
  have ho6 : (((s.heap.update a (Obj.mapSeq fun _ => #[])).push (seqObj "tuple" vs.toArray 0)).push (seqObj "list" #[] 0)).get? a = some (seqObj "list" #[] e1) := by
    rw [Heap.get?_push_ne _ _ _ (by rw [size_push', Heap.size_update]; exact Nat.ne_of_lt (Nat.lt_succ_of_lt ha)), Heap.get?_push_ne _ _ _ (by rw [Heap.size_update]; exact Nat.ne_of_lt ha)]
    exact ho1
  show wpAny (model prog w) A _ P E { s with heap := ((s.heap.update a (Obj.mapSeq fun _ => #[])).push (seqObj "tuple" vs.toArray 0)).push (seqObj "list" #[] 0) }
  dsimp only
  by_cases h2 : vs.toArray.size < 2
  · rw [if_pos h2, if_pos h2]
    refine wpAny_bind (wpAny_pure ?_)
    rw [StateT.run_pure]
    refine wpAny_bind (wpAny_pure ?_)
    dsimp only
    refine wpAny_bind (seqEpoch_at ho6 rfl ?_)
    rw [List.size_toArray] at h2
    refine wpAny_bind (listUpdate_at ho6 rfl ?_ (Nat.zero_le _) (hsz2 := by rw [Array.size_map]; show (vs.toArray.zip vs.toArray).size ≤ _; rw [sizeLine_eq]; simp; omega))
    simp only [bne_self_eq_false, Bool.false_eq_true, if_false]
    have hPs : L = ps := by
      have : ps.length ≤ 1 := by omega
      match ps, this with
      | [], _ => exact hp.eq_nil
      | [p], _ => exact List.perm_singleton.mp hp
    have := h (List.range vs.length) (fun i hi => by rw [← hlen]; exact List.mem_range.mp hi) (by
      rw [hPs, hlen]
      apply List.ext_getElem
      · simp
      · intro i h1 h2
        simp only [List.getElem_map, List.getElem_range]
        rw [List.getD_eq_getElem?_getD, List.getElem?_eq_getElem h2, Option.getD_some])
    have e : (List.range vs.length).map (fun i => vs.getD i Value.none) = vs := by
      apply List.ext_getElem
      · simp
      · intro i h1 h2
        simp only [List.getElem_map, List.getElem_range]
        rw [List.getD_eq_getElem?_getD, List.getElem?_eq_getElem h2, Option.getD_some]
    rw [e] at this
    have e2 : (arrOf (SortSt.mk' general' (vs.toArray.zip vs.toArray) #[] 7 none)).map (·.2) = vs.toArray := by
      show (vs.toArray.zip vs.toArray).map (·.2) = vs.toArray
      apply Array.ext'
      simp [List.map_snd_zip]
    rw [e2]
    exact wpAny_pure this
  · rw [if_neg h2, if_neg h2]
    rw [List.size_toArray] at h2
    have hTk : AllTwo (((s.heap.update a (Obj.mapSeq fun _ => (#[] : Array Value))).push (seqObj "tuple" vs.toArray 0)).push (seqObj "list" #[] 0)) vs ps := by
      have : ∀ {vs' : List Value} {ps : List (Int × Int)}, AllTwo s.heap vs' ps → AllTwo (((s.heap.update a (Obj.mapSeq fun _ => (#[] : Array Value))).push (seqObj "tuple" vs.toArray 0)).push (seqObj "list" #[] 0)) vs' ps := by
        intro vs'
        induction vs' with
        | nil => intro ps h; cases ps with | nil => trivial | cons _ _ => exact h.elim
        | cons v vs' ih =>
          intro ps h
          cases ps with
          | nil => exact h.elim
          | cons p ps =>
            obtain ⟨⟨b, o, t, u, n', e1, e2, e3, e4⟩, h'⟩ := h
            refine ⟨⟨b, o, t, u, n', e1, ?_, e3, e4⟩, ih h'⟩
            have hne : b ≠ a := fun q => by rw [q, ho] at e2; cases e2; exact absurd (show Value.type "list" = Value.type "tuple" from e3) (by decide)
            exact Heap.get?_push_of_some _ (Heap.get?_push_of_some _ ((Heap.get?_update_ne _ _ _ _ hne).trans e2))
      exact this hT
    obtain ⟨fs, q1, q2, q3⟩ := hTk.tups
    obtain ⟨r1, r2, r3⟩ := sort_run hp hs (by omega) h6
    have ask : (kas_sort vs.length).kasWp (kas_ask prog w A (tuples' (Value.type "int" != Value.type "tuple")) vs) (fun p s' => p = runT (fun i j => lexB (ps.getD i (0, 0)) (ps.getD j (0, 0))) (kas_sort ps.length) ∧ s' = { s with heap := ((s.heap.update a (Obj.mapSeq fun _ => (#[] : Array Value))).push (seqObj "tuple" vs.toArray 0)).push (seqObj "list" #[] 0) })
        { s with heap := ((s.heap.update a (Obj.mapSeq fun _ => (#[] : Array Value))).push (seqObj "tuple" vs.toArray 0)).push (seqObj "list" #[] 0) } := by
      rw [hlen]
      refine runT_wp (n := ps.length) (lt := fun i j => lexB (ps.getD i (0, 0)) (ps.getD j (0, 0))) (fun i j C hi hj hC => ?_) _ r1 ⟨rfl, rfl⟩
      exact lt_pairs (hTk.get i (by omega)) (hTk.get j (by omega)) hC
    refine wpAny_bind (kat_kind (T := .type "int") q1 (by omega) (fun f hf => ?_) (by decide) ?_)
    · obtain ⟨i, t, rfl⟩ := q3 f hf
      exact Looks.of_pure rfl
    refine wpAny_bind (wpAny_mono (kat_run (Q := fun st' s' => ∃ p : Array Nat, arrOf st' = p.map (kas_item (vs.toArray.zip vs.toArray)) ∧ failedOf st' = none ∧ p = runT (fun i j => lexB (ps.getD i (0, 0)) (ps.getD j (0, 0))) (kas_sort ps.length) ∧ s' = { s with heap := ((s.heap.update a (Obj.mapSeq fun _ => (#[] : Array Value))).push (seqObj "tuple" vs.toArray 0)).push (seqObj "list" #[] 0) })
      rfl (by omega) (by omega) (fun p' st' s' a1 a2 a3 a4 => ⟨p', a2, a3, a4⟩) ask) ?_ fun _ _ e => e)
    rintro ⟨⟨⟩, st'⟩ s' ⟨p, har, hf, rfl, rfl⟩
    dsimp only
    have hout := kat_snds rfl har
    rw [hout]
    refine wpAny_bind (seqEpoch_at ho6 rfl ?_)
    have hsz : (runT (fun i j => lexB (ps.getD i (0, 0)) (ps.getD j (0, 0))) (kas_sort ps.length)).toList.length = ps.length := by
      have := congrArg List.length r3
      rw [List.length_map] at this
      rw [this, hp.length_eq]
    refine wpAny_bind (listUpdate_at ho6 rfl ?_ (Nat.zero_le _) (by rw [List.size_toArray, List.length_map, hsz, sizeLine_eq]; omega))
    rw [hf]
    simp only [bne_self_eq_false, Bool.false_eq_true, if_false]
    exact wpAny_pure (h _ r2 r3)

theorem sorted_pairs {l : Addr} {vs : List Value} {ps L : List (Int × Int)} {Q : Value → Shared → Prop} (hl : s.heap.IsList l vs.toArray) (hT : AllTwo s.heap vs ps) (hp : L.Perm ps) (hs : L.Pairwise LexLt) (h6 : ps.length ≤ 6)
    (h : ∀ idx : List Nat, (∀ i ∈ idx, i < ps.length) → idx.map (fun i => ps.getD i (0, 0)) = L → Q (.ref (s.heap.objs.size + 1)) { s with heap := sortedAll s.heap vs (List.toArray (idx.map fun i => vs.getD i Value.none)) }) :
    wpAny (model prog w) A (call (.builtin "sorted") [.ref l]) Q E s := by
  have hlen := hT.length
  refine Calls.call_function_entry kind_sorted plain_sorted entry_sorted (args_sorted1 _) ?_
  unfold Builtin.«sorted»
  refine wpAny_bind (m := checkCount "sorted" 1 1 _) (wpAny_pure ?_)
  refine wpAny_bind (collect_list hl ?_ (by rw [sizeLine_eq]; omega))
  refine wpAny_bind (wpAny_newList ?_ (by rw [sizeLine_eq]; omega))
  have hsz : ((s.heap.push (seqObj "list" #[] 0)).update s.heap.objs.size (Obj.mapSeq (· ++ vs.toArray))).objs.size = s.heap.objs.size + 1 := by
    rw [Heap.size_update, size_push']
  have hoL : (((s.heap.push (seqObj "list" #[] 0)).update s.heap.objs.size (Obj.mapSeq (· ++ vs.toArray))).push (seqObj "list" vs.toArray 0)).get? (s.heap.objs.size + 1) = some (seqObj "list" vs.toArray 0) := by
    rw [← hsz]; exact Heap.get?_push_size _ rfl
  have keep : ∀ b o, s.heap.get? b = some o → Heap.get? (((s.heap.push (seqObj "list" #[] 0)).update s.heap.objs.size (Obj.mapSeq (· ++ vs.toArray))).push (seqObj "list" vs.toArray 0)) b = some o := fun b o q => by
    have hlt : b < s.heap.objs.size := Heap.lt_size q
    rw [Heap.get?_push_ne _ _ _ (by rw [hsz]; exact Nat.ne_of_lt (Nat.lt_succ_of_lt hlt)), Heap.get?_update_ne _ _ _ _ (Nat.ne_of_lt hlt), Heap.get?_push_ne _ _ _ (Nat.ne_of_lt hlt)]
    exact q
  show wpAny _ _ _ _ _ { s with heap := ((s.heap.push (seqObj "list" #[] 0)).update s.heap.objs.size (Obj.mapSeq (· ++ vs.toArray))).push (seqObj "list" vs.toArray 0) }
  rw [hsz]
  refine wpAny_bind (wpAny_holding (wpAny_call_entry slot_list_sort ⟨_, hoL, rfl⟩ entry_list_sort (list_sort_pairs hoL (hT.keeps keep) hp hs h6 fun idx a1 a2 => ⟨_, rfl, ?_⟩) (args_list_sort _)))
  exact wpAny_pure ⟨_, rfl, h idx a1 a2⟩
end

section
variable {prog : Program} {w : World} {K : Frag} {base : Heap} {d : Nat} {env : Env} {ρ : List (Str × Bnd)} {e : Expr} {pos p : Pos}
theorem ev_sorted {ps L : List (Int × Int)} (hg : nsIn K mainGlobals "sorted" = some none) (hk : env.kindOf "sorted" = some .globalImplicit) (he : Ev prog w K base d env ρ e (IsL (ps.map pairD))) (hp : L.Perm ps) (hs : L.Pairwise LexLt) (h6 : ps.length ≤ 6) (hst : starEach [e] env = [(false, eval e env)] := by rfl) :
    Ev prog w K base d env ρ (.Call (.Name "sorted" p) [e] [] pos) (IsS (.list (L.map pairD))) :=
  ev_bi1 (hs := hst) hg (by decide +kernel : bootBuiltins "sorted" = some (.builtin "sorted")) hk he (good_S _) fun A Z s E a h₀ W al _ q => by
    obtain ⟨l, vs, rfl, h1, h2⟩ := q
    refine sorted_pairs h1.isList (allTwo_of h2) hp hs h6 fun idx b1 b2 => ?_
    have keep : ∀ b o, s.heap.get? b = some o → Heap.get? (sortedAll s.heap vs (List.toArray (idx.map fun i => vs.getD i Value.none))) b = some o := fun b o e => sortedAll_old e
    obtain ⟨ep, he⟩ := sortedAll_at s.heap vs (List.toArray (idx.map fun i => vs.getD i Value.none))
    refine ⟨.list (vs := idx.map fun i => vs.getD i Value.none) (fun m => ?_) ⟨_, ep, he, rfl, rfl, rfl⟩ ?_, keeps_heap s _ _ keep⟩
    · obtain ⟨o, e⟩ := al _ m
      exact Nat.not_succ_le_self _ (Nat.le_of_succ_le (Heap.lt_size e))
    · rw [← b2, List.map_map]
      have hlen := h2.length
      rw [List.length_map] at hlen
      have go : ∀ l : List Nat, (∀ i ∈ l, i < ps.length) → RepAll Z s.heap (l.map fun i => vs.getD i Value.none) (l.map (pairD ∘ fun i => ps.getD i (0, 0))) := by
        intro l
        induction l with
        | nil => intro _; exact .nil
        | cons i l ih =>
          intro hl
          have hi := hl i (.head _)
          obtain ⟨v, hv, rv⟩ := h2.get (k := i) (d := pairD ps[i]) (by rw [List.getElem?_map, List.getElem?_eq_getElem hi]; rfl)
          refine .cons ?_ (ih fun j hj => hl j (.tail _ hj))
          show Rep Z s.heap (vs.getD i Value.none) (pairD (ps.getD i (0, 0)))
          rw [List.getD_eq_getElem?_getD, hv]
          show Rep Z s.heap v (pairD (ps.getD i (0, 0)))
          rw [List.getD_eq_getElem?_getD, List.getElem?_eq_getElem hi]
          exact rv
      exact (go idx b1).keeps (base := base) (.of' keep)
end
end Mine
end

section
open PySem PySem.W PyProof.Rows PySem.Calls
namespace Mine

/-! facts of re's methods -/
theorem plainAttrs_pat : PlainAttrs "re.Pattern" :=
  ⟨⟨"object.__getattribute__", by rw [typeLookup_type, builtinLookup_eq_fast]; kernel_rfl, by decide +kernel⟩, by rw [typeLookup_type, builtinLookup_eq_fast]; kernel_rfl⟩
theorem plainAttrs_match : PlainAttrs "re.Match" :=
  ⟨⟨"object.__getattribute__", by rw [typeLookup_type, builtinLookup_eq_fast]; kernel_rfl, by decide +kernel⟩, by rw [typeLookup_type, builtinLookup_eq_fast]; kernel_rfl⟩
theorem slot_pat_search : Slot "re.Pattern" "search" "re.Pattern.search" :=
  .of (owner := "re.Pattern") (n := "search") (by rw [typeLookup_type, builtinLookup_eq_fast]; kernel_rfl) (by decide +kernel) (by decide +kernel) (by decide +kernel)
    (by first | exact .inl (by decide +kernel) | exact .inr (by decide +kernel)) (by rw [isSubtype_type]; kernel_rfl)
theorem type_pat_search : typeOf (.builtin "re.Pattern.search") = pure (.type "method_descriptor") := by show builtinType _ = _; rw [builtinType_eq_fast]; kernel_rfl
theorem entry_pat_search : entryFor table "re.Pattern.search" = some Builtin.«re.Pattern.search» := entryFor_of_tree (by kernel_rfl)
theorem slot_match_span : Slot "re.Match" "span" "re.Match.span" :=
  .of (owner := "re.Match") (n := "span") (by rw [typeLookup_type, builtinLookup_eq_fast]; kernel_rfl) (by decide +kernel) (by decide +kernel) (by decide +kernel)
    (by first | exact .inl (by decide +kernel) | exact .inr (by decide +kernel)) (by rw [isSubtype_type]; kernel_rfl)
theorem type_match_span : typeOf (.builtin "re.Match.span") = pure (.type "method_descriptor") := by show builtinType _ = _; rw [builtinType_eq_fast]; kernel_rfl
theorem entry_match_span : entryFor table "re.Match.span" = some Builtin.«re.Match.span» := entryFor_of_tree (by kernel_rfl)
theorem entry_match_string : entryFor table "re.Match.string" = some Builtin.«re.Match.string» := entryFor_of_tree (by kernel_rfl)
theorem type_match_string : typeOf (.builtin "re.Match.string") = pure (.type "member_descriptor") := by show builtinType _ = _; rw [builtinType_eq_fast]; kernel_rfl
theorem args_search (a b : Value) : argsOk "re.Pattern.search" ⟨[a, b], []⟩ := by
  unfold argsOk; kernel_rfl
theorem args_span (a b : Value) : argsOk "re.Match.span" ⟨[a, b], []⟩ := by
  unfold argsOk; kernel_rfl
end Mine
end

section
open PySem PySem.W PyProof.Rows PySem.Calls
open PySem.Sre (M)
namespace Mine

/-! the pattern's machine -/
noncomputable def codeOf (K : Frag) : Array Nat := match K.lookup 50 with
  | some ⟨_, _, .seq xs _, _⟩ => (xs.toList.map fun v => (Builtin.Re.reRawOf v).toNat).toArray
  | _ => #[]
noncomputable def reCode (P : Params) : Array Nat := codeOf (hd.heap_39 P)

noncomputable def it : Nat → M → M
  | 0, m => m
  | n + 1, m => it n m.step
theorem step_done {m : M} (h : m.outcome.isSome = true) : m.step = m := by unfold Sre.M.step; rw [if_pos h]
theorem it_done {m : M} (h : m.outcome.isSome = true) : ∀ n, it n m = m
  | 0 => rfl
  | n + 1 => by rw [it, step_done h, it_done h n]
theorem runFor_it : ∀ n (m : M), Sre.M.runFor n m = it n m
  | 0, m => rfl
  | n + 1, m => by
    unfold Sre.M.runFor
    split
    · rename_i h; rw [it_done h]
    · rw [runFor_it n]; rfl
theorem it_add : ∀ (a b : Nat) (m : M), it (a + b) m = it b (it a m)
  | 0, b, m => by rw [Nat.zero_add]; rfl
  | a + 1, b, m => by rw [Nat.succ_add]; show it (a + b) m.step = _; rw [it_add a b]; rfl

section
variable {Mo : Model} {A : Around} {E : Value → Shared → Prop} {s : Shared}
theorem reDrive_it {Q : M → Shared → Prop} : ∀ (T k : Nat) (m : M), k ≤ 4 * T → 0 < T → (it k m).outcome.isSome = true → Q (it k m) s → wpAny Mo A (Builtin.Re.reDrive T m) Q E s
  | 0, _, _, _, h, _, _ => absurd h (Nat.lt_irrefl _)
  | T + 1, k, m, hk, _, ho, hQ => by
    unfold Builtin.Re.reDrive
    rw [runFor_it]
    show wpAny Mo A (if (it 4 m).outcome.isSome = true then pure (it 4 m) else rule "sre.turn" >>= fun _ => Builtin.Re.reDrive T (it 4 m)) Q E s
    by_cases h4 : (it 4 m).outcome.isSome = true
    · rw [if_pos h4]
      have e : it 4 m = it k m := by
        rcases Nat.le_total k 4 with q | q
        · have : it 4 m = it (4 - k) (it k m) := by rw [← it_add]; congr 1; omega
          rw [this, it_done ho]
        · obtain ⟨j, rfl⟩ := Nat.exists_eq_add_of_le q
          rw [it_add, it_done h4]
      rw [e]; exact wpAny_pure hQ
    · rw [if_neg h4]
      have q : 4 ≤ k := by
        rcases Nat.lt_or_ge k 4 with q | q
        · exfalso
          apply h4
          have : it 4 m = it (4 - k) (it k m) := by rw [← it_add]; congr 1; omega
          rw [this, it_done ho]; exact ho
        · exact q
      have e : it k m = it (k - 4) (it 4 m) := by rw [← it_add]; congr 1; omega
      rw [e] at ho hQ
      refine wpAny_bind (wpAny_rule (reDrive_it T (k - 4) (it 4 m) (by omega) ?_ ho hQ))
      rcases Nat.eq_zero_or_pos T with z | z
      · subst z
        have : k = 4 := by omega
        subst this
        exact absurd ho h4
      · exact z
theorem rules_pass {seen : Sre.Seen} {Q : PUnit → Shared → Prop} (h : Q ⟨⟩ s) : ∀ l : List Nat, wpAny Mo A (forIn l PUnit.unit fun i _ => do
      if seen.has i then rule (Sre.names.getD i "")
      pure (ForInStep.yield PUnit.unit)) Q E s
  | [] => wpAny_pure h
  | i :: l => by
    rw [List.forIn_cons]
    refine wpAny_bind ?_
    by_cases hs : seen.has i = true
    · simp only [hs, if_true]
      exact wpAny_bind (wpAny_rule (wpAny_pure (rules_pass h l)))
    · rw [if_neg hs]
      exact wpAny_pure (rules_pass h l)
end
end Mine
end

section
open PySem PySem.W PyProof.Rows PySem.Calls
open PySem.Sre (M)
namespace Mine
variable {P : Params} {t : Array Nat} {s hd : Nat} {ob : Bool} {sn : Sre.Seen}

noncomputable abbrev mAt (P : Params) (t : Array Nat) (s hd : Nat) (ob : Bool) (sn : Sre.Seen) : M :=
  { code := reCode P, text := t, lim := t.size, start := s, lastStart := t.size, wholeText := false, mustAdvance := false, pc := 9, pos := s, handed := hd, outermost := ob, marks := #[], lastmark := -1, lastindex := -1, loops := #[], inner := none,
    frames := [{ wait := .nextStart, pc := 9, pos := s, outermost := ob }], weight := 1, answer := none, seen := sn, outcome := none }

theorem e_acc : Sre.accepts (reCode P) 9 (t.getD s 0) (sn.add 16) = .ok (t.getD s 0 == 46, sn.add 16) := by rfl
theorem e_step : (mAt P t s hd ob sn).step = (mAt P t s hd ob sn).exec := by rfl
theorem e_word : (mAt P t s hd ob sn).word 0 = 16 := by rfl
theorem e_wid : Sre.itemWidth (reCode P) 9 = 2 := rfl
theorem lit_yes (h : s < t.size) (hc : t.getD s 0 = 46) : (mAt P t s hd ob sn).step = { mAt P t s hd ob sn with pc := 11, pos := s + 1, seen := sn.add 16 } := by
  rw [e_step]
  unfold Sre.M.exec
  rw [e_word]
  dsimp only
  rw [show Sre.ops[16]? = some .LITERAL from rfl]
  dsimp only
  rw [if_neg (by omega), e_acc, hc, e_wid]
  rfl
theorem lit_no (h : s < t.size) (hc : t.getD s 0 ≠ 46) : (mAt P t s hd ob sn).step = { mAt P t s hd ob sn with answer := some false, seen := sn.add 16 } := by
  rw [e_step]
  unfold Sre.M.exec
  rw [e_word]
  dsimp only
  rw [show Sre.ops[16]? = some .LITERAL from rfl]
  dsimp only
  rw [if_neg (by omega), e_acc, beq_false_of_ne hc]
  rfl
theorem lit_end : (mAt P t t.size hd ob sn).step = { mAt P t t.size hd ob sn with answer := some false, seen := sn.add 16 } := by
  rw [e_step]
  unfold Sre.M.exec
  rw [e_word]
  dsimp only
  rw [show Sre.ops[16]? = some .LITERAL from rfl]
  dsimp only
  rw [if_pos (Nat.le_refl _)]
  rfl

noncomputable abbrev mX (P : Params) (t : Array Nat) (start pc pos hd : Nat) (ob : Bool) (lm li : Int) (fr : List Sre.Frame) (we : Nat) (an : Option Bool) (sn : Sre.Seen) : M :=
  { code := reCode P, text := t, lim := t.size, start := start, lastStart := t.size, wholeText := false, mustAdvance := false, pc := pc, pos := pos, handed := hd, outermost := ob, marks := #[], lastmark := lm, lastindex := li, loops := #[], inner := none,
    frames := fr, weight := we, answer := an, seen := sn, outcome := none }
noncomputable abbrev fStart (s : Nat) (ob : Bool) : Sre.Frame := { wait := .nextStart, pc := 9, pos := s, outermost := ob }
noncomputable abbrev fBack (p : Nat) (c : Int) (lm li : Int) (ob : Bool) : Sre.Frame := { wait := .giveBack, pc := 11, pos := p, outermost := ob, count := c, kept := { lastmark := lm, lastindex := li, whole := false, marks := #[] } }

section
variable {start pc pos hd' : Nat} {ob' : Bool} {lm li : Int}
/-- a start that failed: the next -/
theorem next_start0 : (mX P t start pc pos hd' ob' lm li [fStart s ob] 1 (some false) sn).step = (if s < t.size then mAt P t (s + 1) (s + 1) false sn else mX P t start 9 s hd' ob lm li [] 0 (some false) sn) := by rfl
theorem next_start (h : s < t.size) : (mX P t start pc pos hd' ob' lm li [fStart s ob] 1 (some false) sn).step = mAt P t (s + 1) (s + 1) false sn := by rw [next_start0, if_pos h]
theorem last_start : ((mX P t start pc pos hd' ob' lm li [fStart t.size ob] 1 (some false) sn).step.step).outcome = some .failed := by rw [next_start0, if_neg (Nat.lt_irrefl _)]; rfl
/-- the run -/
noncomputable def digits (t : Array Nat) : Nat → Nat → Nat
  | 0, _ => 0
  | n + 1, p => if Sre.isDigit (t.getD p 0) = true then digits t n (p + 1) + 1 else 0
theorem acc15 (c : Nat) (sn : Sre.Seen) : ∃ sn', Sre.accepts (reCode P) 15 c sn = .ok (Sre.isDigit c, sn') := by
  have e : Sre.accepts (reCode P) 15 c sn = (if Sre.isDigit c = true then .ok (true, (sn.add 8).add 55) else .ok (false, ((sn.add 8).add 55).add 0)) := by
    show Sre.inSet (reCode P) c 24 17 true sn = _
    unfold Sre.inSet
    show (do if ← Sre.category 0 c then pure (true, (sn.add 8).add 55) else Sre.inSet (reCode P) c 23 19 true ((sn.add 8).add 55)) = _
    have : Sre.category 0 c = .ok (Sre.isDigit c != false) := rfl
    rw [this]
    cases Sre.isDigit c <;> rfl
  rw [e]
  cases h : Sre.isDigit c
  · exact ⟨_, rfl⟩
  · exact ⟨_, rfl⟩
theorem run_digits : ∀ (n p found : Nat) (sn : Sre.Seen), ∃ sn', Sre.run (reCode P) t 15 n p found sn = .ok (found + digits t n p, sn')
  | 0, p, found, sn => ⟨sn, rfl⟩
  | n + 1, p, found, sn => by
    obtain ⟨sn', e⟩ := acc15 (P := P) (t.getD p 0) sn
    unfold Sre.run digits
    rw [e]
    cases h : Sre.isDigit (t.getD p 0)
    · exact ⟨sn', by simp; rfl⟩
    · obtain ⟨sn'', e'⟩ := run_digits n (p + 1) (found + 1) sn'
      refine ⟨sn'', ?_⟩
      show Sre.run (reCode P) t 15 n (p + 1) (found + 1) sn' = _
      rw [e']
      simp only [if_true]
      congr 2
      omega
end
end Mine
end

section
open PySem PySem.W PyProof.Rows PySem.Calls
open PySem.Sre (M)
namespace Mine
variable {P : Params} {t : Array Nat} {s hd p : Nat} {ob : Bool} {sn : Sre.Seen}

theorem rep_word (j : Nat) {pos hd' : Nat} {fr : List Sre.Frame} {we : Nat} : (mX P t s 11 pos hd' ob (-1) (-1) fr we none sn).word 0 = 24 ∧ (mX P t s 11 pos hd' ob (-1) (-1) fr we none sn).word 1 = 9 ∧ (mX P t s 11 pos hd' ob (-1) (-1) fr we none sn).word 2 = 1 ∧ (mX P t s 11 pos hd' ob (-1) (-1) fr we none sn).word 3 = 4294967295 := ⟨rfl, rfl, rfl, rfl⟩
theorem e_step11 : (mX P t s 11 p hd ob (-1) (-1) [fStart s ob] 1 none sn).step = (mX P t s 11 p hd ob (-1) (-1) [fStart s ob] 1 none sn).exec := by rfl

theorem rep_short (h : ¬ p < t.size) (hp : p ≤ t.size) : ∃ sn', (mX P t s 11 p hd ob (-1) (-1) [fStart s ob] 1 none sn).step = mX P t s 11 p hd ob (-1) (-1) [fStart s ob] 1 (some false) sn' := by
  rw [e_step11]
  unfold Sre.M.exec
  obtain ⟨w0, w1, w2, w3⟩ := rep_word (P := P) (t := t) (s := s) (ob := ob) (sn := sn) 0 (pos := p) (hd' := hd) (fr := [fStart s ob]) (we := 1)
  rw [w0]
  dsimp only
  rw [show Sre.ops[24]? = some .REPEAT_ONE from rfl]
  dsimp only
  refine ⟨sn.add 24, ?_⟩
  have : ((mX P t s 11 p hd ob (-1) (-1) [fStart s ob] 1 none (sn.add 24)).word 2 : Int) > (t.size : Int) - (p : Int) := by show ((1 : Nat) : Int) > _; omega
  rw [if_pos this]
  rfl
theorem rep_run (h : p < t.size) (hsz : t.size < 4294967295) : ∃ sn', (mX P t s 11 p hd ob (-1) (-1) [fStart s ob] 1 none sn).step = (if digits t (t.size - p) p < 1 then mX P t s 11 p hd ob (-1) (-1) [fStart s ob] 1 (some false) sn'
    else mX P t s 21 (p + digits t (t.size - p) p) (p + digits t (t.size - p) p) ob (-1) (-1) [fBack (p + digits t (t.size - p) p) (digits t (t.size - p) p) (-1) (-1) ob, fStart s ob] 2 none sn') := by
  rw [e_step11]
  unfold Sre.M.exec
  obtain ⟨w0, w1, w2, w3⟩ := rep_word (P := P) (t := t) (s := s) (ob := ob) (sn := sn) 0 (pos := p) (hd' := hd) (fr := [fStart s ob]) (we := 1)
  rw [w0]
  dsimp only
  rw [show Sre.ops[24]? = some .REPEAT_ONE from rfl]
  dsimp only
  have n1 : ¬ ((mX P t s 11 p hd ob (-1) (-1) [fStart s ob] 1 none (sn.add 24)).word 2 : Int) > (t.size : Int) - (p : Int) := by show ¬ ((1 : Nat) : Int) > _; omega
  rw [if_neg n1]
  have hm : min ((mX P t s 11 p hd ob (-1) (-1) [fStart s ob] 1 none (sn.add 24)).word 3) ((t.size : Int) - (p : Int)).toNat = t.size - p := by show min 4294967295 _ = _; omega
  simp only [Bool.false_eq_true, if_false]
  rw [hm]
  obtain ⟨sn', e⟩ := run_digits (P := P) (t := t) (t.size - p) p 0 ((sn.add 24).add ((mX P t s 11 p hd ob (-1) (-1) [fStart s ob] 1 none (sn.add 24)).word 4))
  rw [Nat.zero_add] at e
  refine ⟨sn', ?_⟩
  rw [show (11 + 4 : Nat) = 15 from rfl, e]
  dsimp only
  by_cases hr : digits t (t.size - p) p < 1
  · rw [if_pos hr]
    have : digits t (t.size - p) p < (mX P t s 11 p hd ob (-1) (-1) [fStart s ob] 1 none (sn.add 24)).word 2 := hr
    rw [if_pos this]
    rfl
  · rw [if_neg hr]
    have : ¬ digits t (t.size - p) p < (mX P t s 11 p hd ob (-1) (-1) [fStart s ob] 1 none (sn.add 24)).word 2 := hr
    rw [if_neg this]
    rfl

theorem at_step {c : Int} {fr : List Sre.Frame} {we : Nat} : ∃ sn', (mX P t s 21 p p ob (-1) (-1) fr we none sn).step = (if (p == t.size || (p + 1 == t.size && t.getD p 0 == 10)) = true then mX P t s 23 p p ob (-1) (-1) fr we none sn' else mX P t s 21 p p ob (-1) (-1) fr we (some false) sn') := by
  have e : (mX P t s 21 p p ob (-1) (-1) fr we none sn).step = (mX P t s 21 p p ob (-1) (-1) fr we none sn).exec := by rfl
  rw [e]
  unfold Sre.M.exec
  rw [show (mX P t s 21 p p ob (-1) (-1) fr we none sn).word 0 = 6 from rfl]
  dsimp only
  rw [show Sre.ops[6]? = some .AT from rfl]
  dsimp only
  rw [show (mX P t s 21 p p ob (-1) (-1) fr we none (sn.add 6)).word 1 = 5 from rfl]
  have : (mX P t s 21 p p ob (-1) (-1) fr we none (sn.add 6)).isAt 5 = .ok (p == t.size || (p + 1 == t.size && t.getD p 0 == 10)) := rfl
  rw [this]
  exact ⟨(sn.add 6).add 48, rfl⟩

theorem back_step {pos : Nat} {c : Int} : (mX P t s 21 pos pos ob (-1) (-1) [fBack p c (-1) (-1) ob, fStart s ob] 2 (some false) sn).step =
    (if c - 1 < 1 then mX P t s 11 p pos ob (-1) (-1) [fStart s ob] 1 (some false) sn else mX P t s 21 (p - 1) (p - 1) ob (-1) (-1) [fBack (p - 1) (c - 1) (-1) (-1) ob, fStart s ob] 2 none sn) := by
  rfl
theorem ok_steps {c : Int} : ∃ m : M, it 4 (mX P t s 23 p p ob (-1) (-1) [fBack p c (-1) (-1) ob, fStart s ob] 2 none sn) = m ∧ m.outcome = some .matched ∧ m.start = s ∧ m.handed = p ∧ m.lastindex = -1 ∧ m.lastmark = -1 ∧ m.marks = #[] := by
  have e1 : (mX P t s 23 p p ob (-1) (-1) [fBack p c (-1) (-1) ob, fStart s ob] 2 none sn).step = mX P t s 23 p p ob (-1) (-1) [fBack p c (-1) (-1) ob, fStart s ob] 2 (some true) (sn.add 1) := by
    cases ob <;> rfl
  refine ⟨_, rfl, ?_⟩
  show (it 3 ((mX P t s 23 p p ob (-1) (-1) [fBack p c (-1) (-1) ob, fStart s ob] 2 none sn).step)).outcome = _ ∧ (it 3 ((mX P t s 23 p p ob (-1) (-1) [fBack p c (-1) (-1) ob, fStart s ob] 2 none sn).step)).start = _ ∧ (it 3 ((mX P t s 23 p p ob (-1) (-1) [fBack p c (-1) (-1) ob, fStart s ob] 2 none sn).step)).handed = _ ∧ (it 3 ((mX P t s 23 p p ob (-1) (-1) [fBack p c (-1) (-1) ob, fStart s ob] 2 none sn).step)).lastindex = _ ∧ (it 3 ((mX P t s 23 p p ob (-1) (-1) [fBack p c (-1) (-1) ob, fStart s ob] 2 none sn).step)).lastmark = _ ∧ (it 3 ((mX P t s 23 p p ob (-1) (-1) [fBack p c (-1) (-1) ob, fStart s ob] 2 none sn).step)).marks = _
  rw [e1]
  exact ⟨rfl, rfl, rfl, rfl, rfl, rfl⟩
end Mine
end

section
open PySem PySem.W PyProof.Rows PySem.Calls
open PySem.Sre (M)
namespace Mine
variable {P : Params} {t : Array Nat} {s hd p : Nat} {ob : Bool} {sn : Sre.Seen}

theorem digits_le (t : Array Nat) : ∀ n p, digits t n p ≤ n
  | 0, p => Nat.le_refl _
  | n + 1, p => by
    unfold digits
    split
    · exact Nat.succ_le_succ (digits_le t n (p + 1))
    · exact Nat.zero_le _
/-- a run does not pass what is no figure -/
theorem digits_stop {t : Array Nat} {j : Nat} (hj : Sre.isDigit (t.getD j 0) = false) : ∀ n p, p ≤ j → p + digits t n p ≤ j
  | 0, p, h => h
  | n + 1, p, h => by
    unfold digits
    split
    · rename_i hd
      have hne : p ≠ j := fun e => by rw [e, hj] at hd; cases hd
      have := digits_stop hj n (p + 1) (by omega)
      omega
    · omega
theorem digits_all {t : Array Nat} : ∀ n p, (∀ i, p ≤ i → i < p + n → Sre.isDigit (t.getD i 0) = true) → digits t n p = n
  | 0, p, _ => rfl
  | n + 1, p, h => by
    unfold digits
    rw [if_pos (h p (Nat.le_refl _) (by omega)), digits_all n (p + 1) fun i h1 h2 => h i (by omega) (by omega)]

noncomputable def NotEnd (t : Array Nat) (q : Nat) : Prop := (q == t.size || (q + 1 == t.size && t.getD q 0 == 10)) = false

theorem back_all (hs : s < t.size) {p0 : Nat} : ∀ (c : Nat) (sn : Sre.Seen), 1 ≤ c → (∀ q, p0 < q → q ≤ p0 + c → NotEnd t q) → ∃ k sn', k ≤ 2 * c + 1 ∧ it k (mX P t s 21 (p0 + c) (p0 + c) ob (-1) (-1) [fBack (p0 + c) c (-1) (-1) ob, fStart s ob] 2 none sn) = mAt P t (s + 1) (s + 1) false sn'
  | 0, _, h, _ => absurd h (Nat.not_succ_le_zero _)
  | c + 1, sn, _, h => by
    obtain ⟨sn', e⟩ := at_step (P := P) (t := t) (s := s) (p := p0 + (c + 1)) (ob := ob) (sn := sn) (c := 0) (fr := [fBack (p0 + (c + 1)) ((c + 1 : Nat) : Int) (-1) (-1) ob, fStart s ob]) (we := 2)
    have hne : NotEnd t (p0 + (c + 1)) := h _ (by omega) (Nat.le_refl _)
    rw [hne] at e
    simp only [Bool.false_eq_true, if_false] at e
    have e2 := back_step (P := P) (t := t) (s := s) (p := p0 + (c + 1)) (pos := p0 + (c + 1)) (c := ((c + 1 : Nat) : Int)) (ob := ob) (sn := sn')
    cases c with
    | zero =>
      rw [if_pos (by decide)] at e2
      refine ⟨3, sn', by omega, ?_⟩
      show it 2 (M.step _) = _
      rw [e]
      show it 1 (M.step _) = _
      rw [e2]
      exact next_start hs
    | succ c =>
      have n1 : ¬ (((c + 1 + 1 : Nat) : Int) - 1 < 1) := by omega
      rw [if_neg n1] at e2
      obtain ⟨k, sn'', hk, e3⟩ := back_all hs (c + 1) sn' (by omega) fun q h1 h2 => h q h1 (by omega)
      refine ⟨k + 2, sn'', by omega, ?_⟩
      show it (k + 1) (M.step _) = _
      rw [e]
      show it k (M.step _) = _
      rw [e2]
      have a1 : p0 + (c + 1 + 1) - 1 = p0 + (c + 1) := by omega
      have a2 : ((c + 1 + 1 : Nat) : Int) - 1 = ((c + 1 : Nat) : Int) := by omega
      rw [a1, a2]
      exact e3

/-- a start that does not match -/
theorem start_fails (hs : s < t.size) (hsz : t.size < 4294967295) (h : t.getD s 0 = 46 → ∀ q, s + 1 < q → q ≤ s + 1 + digits t (t.size - (s + 1)) (s + 1) → NotEnd t q) :
    ∃ k sn', k ≤ 2 * t.size + 5 ∧ it k (mAt P t s hd ob sn) = mAt P t (s + 1) (s + 1) false sn' := by
  by_cases hc : t.getD s 0 = 46
  · have e1 := lit_yes (P := P) (hd := hd) (ob := ob) (sn := sn) hs hc
    by_cases hp : s + 1 < t.size
    · obtain ⟨sn', e2⟩ := rep_run (P := P) (t := t) (s := s) (p := s + 1) (hd := hd) (ob := ob) (sn := sn.add 16) hp hsz
      by_cases hr : digits t (t.size - (s + 1)) (s + 1) < 1
      · rw [if_pos hr] at e2
        refine ⟨3, sn', by omega, ?_⟩
        show it 2 (M.step _) = _
        rw [e1]
        show it 1 (M.step _) = _
        rw [e2]
        exact next_start hs
      · rw [if_neg hr] at e2
        obtain ⟨k, sn'', hk, e3⟩ := back_all (P := P) (ob := ob) hs (digits t (t.size - (s + 1)) (s + 1)) sn' (by omega) (h hc)
        have hle := digits_le t (t.size - (s + 1)) (s + 1)
        refine ⟨k + 2, sn'', by omega, ?_⟩
        show it (k + 1) (M.step _) = _
        rw [e1]
        show it k (M.step _) = _
        rw [e2]
        exact e3
    · obtain ⟨sn', e2⟩ := rep_short (P := P) (t := t) (s := s) (p := s + 1) (hd := hd) (ob := ob) (sn := sn.add 16) hp (by omega)
      refine ⟨3, sn', by omega, ?_⟩
      show it 2 (M.step _) = _
      rw [e1]
      show it 1 (M.step _) = _
      rw [e2]
      exact next_start hs
  · have e1 := lit_no (P := P) (hd := hd) (ob := ob) (sn := sn) hs hc
    refine ⟨2, sn.add 16, by omega, ?_⟩
    show it 1 (M.step _) = _
    rw [e1]
    exact next_start hs

theorem starts_fail (hsz : t.size < 4294967295) {j : Nat} (hj : j ≤ t.size) (h : ∀ s, s < j → t.getD s 0 = 46 → ∀ q, s + 1 < q → q ≤ s + 1 + digits t (t.size - (s + 1)) (s + 1) → NotEnd t q) :
    ∀ (n s hd : Nat) (ob : Bool) (sn : Sre.Seen), s + n = j → ∃ k hd' ob' sn', k ≤ n * (2 * t.size + 5) ∧ it k (mAt P t s hd ob sn) = mAt P t j hd' ob' sn'
  | 0, s, hd, ob, sn, e => ⟨0, hd, ob, sn, Nat.zero_le _, by rw [← e]; rfl⟩
  | n + 1, s, hd, ob, sn, e => by
    obtain ⟨k, sn', hk, e1⟩ := start_fails (P := P) (hd := hd) (ob := ob) (sn := sn) (s := s) (by omega) hsz (h s (by omega))
    obtain ⟨k', hd', ob', sn'', hk', e2⟩ := starts_fail hsz hj h n (s + 1) (s + 1) false sn' (by omega)
    refine ⟨k + k', hd', ob', sn'', ?_, by rw [it_add, e1, e2]⟩
    rw [Nat.add_mul, Nat.one_mul]
    omega

/-- no point at all -/
theorem search_none (hsz : t.size < 100000) (h : ∀ i, i < t.size → t.getD i 0 ≠ 46) (sn : Sre.Seen) : ∃ k, k ≤ 100000000000 ∧ (it k (mAt P t 0 0 true sn)).outcome = some .failed := by
  obtain ⟨k, hd', ob', sn', hk, e⟩ := starts_fail (P := P) (t := t) (by omega) (Nat.le_refl _) (fun s hs hc => absurd hc (h s hs)) t.size 0 0 true sn (by omega)
  refine ⟨k + 3, ?_, ?_⟩
  · have : t.size * (2 * t.size + 5) ≤ 100000 * (2 * 100000 + 5) := Nat.mul_le_mul (by omega) (by omega)
    omega
  · rw [it_add, e]
    show (it 2 (M.step _)).outcome = _
    rw [lit_end]
    exact last_start (P := P)
/-- the last point has figures behind it, to the end -/
theorem search_some (hsz : t.size < 100000) {j : Nat} (hj : j + 1 < t.size) (hc : t.getD j 0 = 46) (hd : ∀ i, j < i → i < t.size → Sre.isDigit (t.getD i 0) = true) (sn : Sre.Seen) :
    ∃ k, k ≤ 100000000000 ∧ (it k (mAt P t 0 0 true sn)).outcome = some .matched ∧ (it k (mAt P t 0 0 true sn)).start = j ∧ (it k (mAt P t 0 0 true sn)).handed = t.size ∧ (it k (mAt P t 0 0 true sn)).lastindex = -1 ∧ (it k (mAt P t 0 0 true sn)).lastmark = -1 ∧ (it k (mAt P t 0 0 true sn)).marks = #[] := by
  have nd : Sre.isDigit (t.getD j 0) = false := by rw [hc]; rfl
  obtain ⟨k, hd', ob', sn', hk, e⟩ := starts_fail (P := P) (t := t) (j := j) (by omega) (by omega) (fun s hs hc q h1 h2 => by
    have := digits_stop nd (t.size - (s + 1)) (s + 1) (by omega)
    unfold NotEnd
    have a1 : (q == t.size) = false := beq_false_of_ne (by omega)
    have a2 : (q + 1 == t.size) = false := beq_false_of_ne (by omega)
    rw [a1, a2]; rfl) j 0 0 true sn (by omega)
  have e1 := lit_yes (P := P) (hd := hd') (ob := ob') (sn := sn') (s := j) (by omega) hc
  obtain ⟨sn1, e2⟩ := rep_run (P := P) (t := t) (s := j) (p := j + 1) (hd := hd') (ob := ob') (sn := sn'.add 16) hj (by omega)
  have hall := digits_all (t := t) (t.size - (j + 1)) (j + 1) fun i h1 h2 => hd i (by omega) (by omega)
  rw [hall, if_neg (by omega), show j + 1 + (t.size - (j + 1)) = t.size by omega] at e2
  obtain ⟨sn2, e3⟩ := at_step (P := P) (t := t) (s := j) (p := t.size) (ob := ob') (sn := sn1) (c := 0) (fr := [fBack t.size ((t.size - (j + 1) : Nat) : Int) (-1) (-1) ob', fStart j ob']) (we := 2)
  rw [show (t.size == t.size || (t.size + 1 == t.size && t.getD t.size 0 == 10)) = true by simp, if_pos rfl] at e3
  obtain ⟨m, e4, r⟩ := ok_steps (P := P) (t := t) (s := j) (p := t.size) (ob := ob') (sn := sn2) (c := ((t.size - (j + 1) : Nat) : Int))
  refine ⟨k + 7, ?_, ?_⟩
  · have : j * (2 * t.size + 5) ≤ 100000 * (2 * 100000 + 5) := Nat.mul_le_mul (by omega) (by omega)
    omega
  · have fin : it (k + 7) (mAt P t 0 0 true sn) = m := by
      rw [it_add, e]
      show it 6 (M.step _) = _
      rw [e1]
      show it 5 (M.step _) = _
      rw [e2]
      show it 4 (M.step _) = _
      rw [e3]
      exact e4
    rw [fin]
    exact r

section
variable {Mo : Model} {A : Around} {E : Value → Shared → Prop} {s : Shared}
theorem run_none {Q : Option M → Shared → Prop} {m : M} {k : Nat} (hk : k ≤ 100000000000) (ho : (it k m).outcome = some .failed) (h : Q none s) : wpAny Mo A (Builtin.Re.reRunToEnd m) Q E s := by
  unfold Builtin.Re.reRunToEnd
  refine wpAny_bind (reDrive_it (2 ^ 64) k m (Nat.le_trans hk (by decide)) (by decide) (by rw [ho]; rfl) ?_)
  refine wpAny_bind (rules_pass ?_ _)
  rw [ho]
  exact wpAny_pure h
theorem run_some {Q : Option M → Shared → Prop} {m : M} {k : Nat} (hk : k ≤ 100000000000) (ho : (it k m).outcome = some .matched) (h : Q (some (it k m)) s) : wpAny Mo A (Builtin.Re.reRunToEnd m) Q E s := by
  unfold Builtin.Re.reRunToEnd
  refine wpAny_bind (reDrive_it (2 ^ 64) k m (Nat.le_trans hk (by decide)) (by decide) (by rw [ho]; rfl) ?_)
  refine wpAny_bind (rules_pass ?_ _)
  rw [ho]
  exact wpAny_pure h
theorem forSearch_long (h : 2 ≤ t.size) : ∃ sn, Sre.forSearch (reCode P) t 0 0 t.size false = mAt P t 0 0 true sn := by
  unfold Sre.forSearch
  rw [show Sre.header (reCode P) = (2, 9) from rfl]
  dsimp only
  rw [if_neg (by simp; omega)]
  have h1 : (if (decide (2 > 1) && !(9 != 0 && (reCode P).getD 2 0 &&& 5 != 0)) = true then max 0 (t.size - (2 - 1)) else t.size) = t.size := by
    rw [show (reCode P).getD 2 0 = 1 from rfl]
    rw [if_neg (by decide)]
  rw [h1]
  have h2 : (Array.replicate (2 * 0) (none : Option Nat)) = #[] := rfl
  refine ⟨({} : Sre.Seen).add 14, ?_⟩
  unfold Sre.M.attemptFrom Sre.M.hasFirstSet
  dsimp only
  exact rfl
theorem forSearch_short (h : t.size < 2) : (it 1 (Sre.forSearch (reCode P) t 0 0 t.size false)).outcome = some .failed := by
  unfold Sre.forSearch
  rw [show Sre.header (reCode P) = (2, 9) from rfl]
  dsimp only
  rw [if_pos (by simp; omega)]
  rfl
end
end Mine
end

section
open PySem PySem.W PyProof.Rows PySem.Calls
open PySem.Sre (M)
namespace Mine

theorem pat_obj (P : Params) : ∃ d r3 r4 sl, (hd.heap_39 P).lookup 51 = some ⟨.type "re.Pattern", none, .fields #[d, r3, .int 0 0, r4, .none, .ref 50, .int 0 0], sl⟩ := ⟨_, _, _, _, rfl⟩
theorem code_obj (P : Params) : ∃ sl xs n, (hd.heap_39 P).lookup 50 = some ⟨.type "tuple", none, .seq xs n, sl⟩ ∧ (xs.map Builtin.Re.reRawOf).map (·.toNat) = reCode P := by
  refine ⟨_, _, _, rfl, ?_⟩
  rw [Array.map_map]
  apply Array.ext'
  rw [Array.toList_map]
  rfl

section
variable {prog : Program} {w : World} {A : Around} {E : Value → Shared → Prop} {s : Shared} {P : Params} {x : Str} {u : Tok}
theorem named_search (v : Value) : Builtin.Re.reNamed "re.Pattern.search" "search" ["string", "pos", "endpos"] 1 [v] [] = pure [some v, none, none] := by rfl

theorem search_target {Q : Builtin.Re.ReTarget → Shared → Prop} (X : (hd.heap_39 P).In s.heap)
    (h : Q { pattern := .ref 51, string := .str x u, code := reCode P, text := x.cps, kind := 0, groups := 0, pos := 0, lim := x.cps.size } s) (hsz : x.cps.size < 2 ^ 63 - 1) :
    wpAny (model prog w) A (Builtin.Re.reTarget "re.Pattern.search" "search" ⟨[.ref 51, .str x u], []⟩) Q E s := by
  obtain ⟨d, r3, r4, sl, h51⟩ := pat_obj P
  obtain ⟨sl', xs, n, h50, hx⟩ := code_obj P
  unfold Builtin.Re.reTarget
  dsimp only
  rw [named_search]
  refine wpAny_bind (wpAny_pure ?_)
  dsimp only
  refine wpAny_bind (wpAny_pure (wpAny_bind (wpAny_pure ?_)))
  refine wpAny_bind (wpAny_fieldsOf (X _ _ h51) rfl ?_)
  refine wpAny_bind ?_
  unfold Builtin.Re.reTextOf
  refine wpAny_bind (wpAny_pure ?_)
  refine wpAny_pure ?_
  dsimp only
  rw [if_neg (show ¬ ((Builtin.Re.reRawNat ((#[d, r3, Value.int 0 0, r4, Value.none, Value.ref 50, Value.int 0 0] : Array Value).getD 6 Value.none) == 0 && (0 : Nat) == 1) = true) from Bool.false_ne_true)]
  refine wpAny_ite ?_
  rw [if_neg (show ¬ ((Builtin.Re.reRawNat ((#[d, r3, Value.int 0 0, r4, Value.none, Value.ref 50, Value.int 0 0] : Array Value).getD 6 Value.none) == 1 && (0 : Nat) == 0) = true) from Bool.false_ne_true)]
  refine wpAny_bind ?_
  unfold Builtin.Re.reNoCollectionInside
  rw [if_neg (by decide)]
  refine wpAny_pure ?_
  refine wpAny_bind ?_
  unfold Builtin.Re.reRawItems
  refine wpAny_bind (show wpAny _ _ (seqItems? (.ref 50)) _ _ _ from wpAny_seqItems (X _ _ h50) rfl ?_)
  refine wpAny_pure ?_
  have e1 : min (2 ^ 63 - 1 : Int).toNat x.cps.size = x.cps.size := by rw [Nat.min_eq_right]; show x.cps.size ≤ 9223372036854775807; omega
  have e2 : min (Int.toNat 0) x.cps.size = 0 := Nat.zero_min _
  refine wpAny_pure ?_
  rw [e1, e2, show (some xs).getD #[] = xs from rfl, hx]
  exact h

/-- a match -/
noncomputable def IsM (x : Str) (b e : Nat) (h₀ h : Heap) (a : Addr) : Prop := ∃ T u pat i1 i2 i3, h₀.get? a = none ∧ h₀.get? T = none ∧ h.get? a = some { cls := .type "re.Match", data := .fields #[.str x u, pat, i1, i2, i3, .ref T] } ∧ h.get? T = some { cls := .type "tuple", data := .seq #[rawInt b, rawInt e] }

theorem call_search_none {Q : Value → Shared → Prop} (X : (hd.heap_39 P).In s.heap) (hsz : x.cps.size < 100000) (hn : ∀ i, i < x.cps.size → x.cps.getD i 0 ≠ 46) (h : Q .none s) :
    wpAny (model prog w) A (call (.builtin "re.Pattern.search") [.ref 51, .str x u]) Q E s := by
  obtain ⟨d, r3, r4, sl, h51⟩ := pat_obj P
  refine wpAny_call_entry slot_pat_search ⟨_, X _ _ h51, rfl⟩ entry_pat_search ?_ (args_search _ _)
  unfold Builtin.«re.Pattern.search»
  refine wpAny_bind (search_target X ?_ (by omega))
  unfold Builtin.Re.reAnswer
  dsimp only
  refine wpAny_bind ?_
  by_cases h2 : 2 ≤ x.cps.size
  · obtain ⟨sn, e⟩ := forSearch_long (P := P) h2
    obtain ⟨k, hk, ho⟩ := search_none (P := P) hsz hn sn
    rw [e]
    exact run_none hk ho (wpAny_pure ⟨_, rfl, h⟩)
  · exact run_none (k := 1) (by decide) (forSearch_short (P := P) (by omega)) (wpAny_pure ⟨_, rfl, h⟩)
theorem call_search_some {Q : Value → Shared → Prop} (X : (hd.heap_39 P).In s.heap) (hsz : x.cps.size < 100000) {j : Nat} (hj : j + 1 < x.cps.size) (hc : x.cps.getD j 0 = 46) (hd' : ∀ i, j < i → i < x.cps.size → Sre.isDigit (x.cps.getD i 0) = true)
    (h : ∀ h' a, (∀ b o, s.heap.get? b = some o → h'.get? b = some o) → IsM x j x.cps.size s.heap h' a → Q (.ref a) { s with heap := h' }) :
    wpAny (model prog w) A (call (.builtin "re.Pattern.search") [.ref 51, .str x u]) Q E s := by
  obtain ⟨d, r3, r4, sl, h51⟩ := pat_obj P
  refine wpAny_call_entry slot_pat_search ⟨_, X _ _ h51, rfl⟩ entry_pat_search ?_ (args_search _ _)
  unfold Builtin.«re.Pattern.search»
  refine wpAny_bind (search_target X ?_ (by omega))
  unfold Builtin.Re.reAnswer
  dsimp only
  refine wpAny_bind ?_
  obtain ⟨sn, e⟩ := forSearch_long (P := P) (t := x.cps) (by omega)
  obtain ⟨k, hk, ho, e1, e2, e3, e4, e5⟩ := search_some (P := P) hsz hj hc hd' sn
  rw [e]
  refine run_some hk ho ?_
  dsimp only
  generalize it k (mAt P x.cps 0 0 true sn) = m at e1 e2 e3 e4 e5
  unfold Builtin.Re.reNewMatch
  dsimp only
  rw [e1, e2, e3]
  refine wpAny_bind (wpAny_bind (wpAny_newTuple (items := [rawInt j, rawInt x.cps.size]) ?_ (by show (2 : Nat) ≤ sizeLine; rw [sizeLine_eq]; omega)))
  refine wpAny_newObj_type ?_ (by first | trivial | size_fits)
  have k1 : ∀ b o, s.heap.get? b = some o → (s.heap.push { cls := .type "tuple", data := .seq [rawInt j, rawInt x.cps.size].toArray }).get? b = some o := push_new'
  refine wpAny_pure ⟨_, rfl, h _ _ (fun b o e => push_new' _ _ (k1 b o e)) ⟨s.heap.objs.size, u, _, _, _, _, ?_, none_at _, Heap.get?_push_size _ rfl, push_new' _ _ (Heap.get?_push_size _ rfl)⟩⟩
  refine Heap.get?_none_of_le ?_
  show s.heap.objs.size ≤ (s.heap.push _).objs.size
  rw [Heap.size_push]; exact Nat.le_succ _
end
end Mine
end

section
open PySem PySem.W PyProof.Rows PySem.Calls
namespace Mine

/-! exceptions -/
/-- e is under way, over the frames l; G's other objects stand as they stood -/
noncomputable def Fly (base G : Heap) (l : List Env) (e : Addr) (cls : Value) (h : Heap) : Prop :=
  (∃ B a0, base.StaysIn B ∧ (∀ b o, G.get? b = some o → b ∉ l.filterMap (·.frame) → B.get? b = some o) ∧ Heap.FlyingW B l e cls a0 h) ∧ G.UpToSlots h

section
variable {M : Model} {A : Around} {E : Value → Shared → Prop} {s : Shared}
theorem leave_new {base G : Heap} {env : Env} {outer : List Env} {L e : Addr} {oe : Obj} {vs : Array Value} {a0 : Value} {Q : Unit → Shared → Prop} (hfr : A.frames = some (env :: outer)) (hf : env.frame = some L) (hk : env.scope.kind ≠ .module)
    (hb : base.StaysIn G) (hG : G.FunFrames base outer) (kG : ∀ b o, G.get? b = some o → s.heap.get? b = some o) (hL0 : G.get? L = none) (hL : ∃ o, s.heap.get? L = some o ∧ ∀ vs, o.data ≠ .fields vs)
    (he : s.heap.get? e = some oe) (he0 : G.get? e = none) (hd : oe.data = .fields vs) (h1 : vs[1]? = some .none) (h0 : vs[0]? = some a0)
    (hQ : ∀ h', Fly base G outer e oe.cls h' → Q () { s with heap := h' }) : wpAny M A (leaving env (.ref e)) Q E s := by
  have hin : ∀ x ∈ outer, ∀ b, x.frame = some b → b ∈ outer.filterMap (·.frame) := fun x hx b hb => List.mem_filterMap.mpr ⟨x, hx, hb⟩
  have hB : ∀ b o, (hideAll G (outer.filterMap (·.frame))).get? b = some o → s.heap.get? b = some o := fun b o q => kG b o (of_hideAll _ q)
  have none' : ∀ b, G.get? b = none → (hideAll G (outer.filterMap (·.frame))).get? b = none := fun b q => by
    cases x : (hideAll G (outer.filterMap (·.frame))).get? b with
    | none => rfl
    | some o => have := of_hideAll _ x; rw [q] at this; cases this
  have hfun : s.heap.FunFrames (hideAll G (outer.filterMap (·.frame))) (env :: outer) := by
    obtain ⟨oL, q1, q2⟩ := hL
    exact ⟨hk, ⟨L, oL, hf, none' L hL0, q1, q2⟩, (funFrames_hide hG hin).of_keeps fun b o e _ => ⟨o, kG b o e, rfl⟩⟩
  refine wpAny_leaving_firstW (a0 := a0) hfr hfun hf he hB (none' e he0) hd h1 h0 fun h' hL => ?_
  obtain ⟨k1, ⟨_, _, k2⟩, k3, k4⟩ := hL
  refine hQ h' ⟨⟨_, a0, fun b o q => hideAll_get _ (hb b o q) fun m => ?_, fun b o q m => hideAll_get _ q m, k1, none' e he0, k2, k3⟩, fun b o q hn => k4 b o (kG b o q) hn⟩
  rw [(hG.mem m).1] at q; cases q
end

theorem fly_hext {base G h : Heap} {l : List Env} {e : Addr} {cls : Value} (f : Fly base G l e cls h) (hG : G.FunFrames base l) (hc : ∀ a ∈ l.filterMap (·.frame), ∃ o, G.get? a = some o ∧ IsFr o) : Hext base G h := fun b o _ q => by
  obtain ⟨⟨B, a0, b1, b2, fl⟩, up⟩ := f
  by_cases m : b ∈ l.filterMap (·.frame)
  · obtain ⟨n0, o', q', hd⟩ := hG.mem m
    rw [q] at q'; cases q'
    obtain ⟨o'', q'', c⟩ := hc b m
    rw [q] at q''; cases q''
    exact .inr ⟨c, n0, up b o q hd⟩
  · exact .inl (fl.1 b o (b2 b o q m))
end Mine
end

section
open PySem PySem.W PyProof.Rows PySem.Calls
namespace Mine

section
variable {prog : Program} {w : World} {A : Around} {E : Value → Shared → Prop} {s : Shared}

theorem attr_none {name : Str} {Q : Value → Shared → Prop} (hmiss : typeLookup (.type "NoneType") name = pure none) (hA : A.handled = none)
    (h : ∀ h' tk e, Heap.NewAttrErr s.heap h' e .none name → E (.ref e) { s with heap := h', toks := tk }) (hsz : name.length + 100 ≤ sizeLine) :
    wpAny (model prog w) A (getAttr (.none) name) Q E s := by
  obtain ⟨hp, g, d, tk, os⟩ := s
  have hT : ∀ s' : Shared, s'.TypeIs (.none) "NoneType" := fun _ => rfl
  have f1 := sub_AttributeError
  have f3 := F.slot_NoneType_getattribute.lookup
  have f4 := F.slot_NoneType_getattribute.bind (.none)
  have f5 := am_none_getattr_none
  unfold getAttr getAttrBy
  repeat (any_goals (first | assumption | ((with_reducible show wpAny _ _ (call (Value.builtin "object.__getattribute__") _ _) _ _ _); refine call_meets F.slot_NoneType_getattribute (hT _) F.entry_object_getattribute (F.args_object_getattribute_2 _ _) (meets_getattribute_miss_none name _ hmiss hsz) ⟨hA, fun h' tk' e hx => ?_⟩) | wp_step))
  obtain ⟨t', u', he⟩ := hx.there
  show wpAny _ _ (getattributeRaised _ _ _ _ _ _ _) _ _ _
  unfold getattributeRaised
  repeat (any_goals (first | assumption | wp_step))
  exact h _ _ _ hx

theorem method_none {name : Str} {pl : Sem Bool} {Q : Value × List Value → Shared → Prop} (hmiss : typeLookup (.type "NoneType") name = pure none) (hA : A.handled = none)
    (h : ∀ h' tk e, Heap.NewAttrErr s.heap h' e .none name → E (.ref e) { s with heap := h', toks := tk }) (hsz : name.length + 100 ≤ sizeLine) :
    wpAny (model prog w) A (getMethod (.none) name pl) Q E s := by
  have hT : s.TypeIs (.none) "NoneType" := rfl
  unfold getMethod
  refine wpAny_bind (wpAny_specialOf hT F.slot_NoneType_getattribute.lookup ?_)
  dsimp only
  rw [if_neg (by decide +kernel)]
  refine wpAny_bind (wpAny_specialOf hT am_none_getattr_none ?_)
  rw [if_neg (by decide)]
  refine wpAny_bind (wpAny_specialOf hT hmiss ?_)
  dsimp only
  exact wpAny_bind (attr_none hmiss hA h hsz)
end

end Mine
end

section
open PySem PySem.W PyProof.Rows PySem.Calls Builtin Builtin.ObjectAttr Builtin.Getset_descriptor
namespace Mine

/-! the name of a function -/
section
variable {prog : Program} {w : World} {A : Around} {E : Value → Shared → Prop} {s : Shared}
theorem fn_look : typeLookup (.type "function") "__name__" = pure (some (.builtin "function.__name__")) := by rw [typeLookup_type, builtinLookup_eq_fast]; kernel_rfl
theorem fn_ga : typeLookup (.type "function") "__getattribute__" = pure (some (.builtin "object.__getattribute__")) := by rw [typeLookup_type, builtinLookup_eq_fast]; kernel_rfl
theorem fn_noga : typeLookup (.type "function") "__getattr__" = pure none := by rw [typeLookup_type, builtinLookup_eq_fast]; kernel_rfl
theorem fn_entry : entryFor table "function.__name__" = some Builtin.«function.__name__» := entryFor_of_tree (by kernel_rfl)
theorem fn_type : typeOf (.builtin "function.__name__") = pure (.type "getset_descriptor") := by show builtinType _ = _; rw [builtinType_eq_fast]; kernel_rfl
theorem m_look : typeLookup (.type "re.Match") "string" = pure (some (.builtin "re.Match.string")) := by rw [typeLookup_type, builtinLookup_eq_fast]; kernel_rfl
theorem m_ga : typeLookup (.type "re.Match") "__getattribute__" = pure (some (.builtin "object.__getattribute__")) := by rw [typeLookup_type, builtinLookup_eq_fast]; kernel_rfl
theorem m_noga : typeLookup (.type "re.Match") "__getattr__" = pure none := by rw [typeLookup_type, builtinLookup_eq_fast]; kernel_rfl

theorem slot_fn_ga : Slot "function" "__getattribute__" "object.__getattribute__" :=
  .of (owner := "object") (n := "__getattribute__") (by rw [typeLookup_type, builtinLookup_eq_fast]; kernel_rfl) (by decide +kernel) (by decide +kernel) (by decide +kernel)
    (by first | exact .inl (by decide +kernel) | exact .inr (by decide +kernel)) (by rw [isSubtype_type]; kernel_rfl)
theorem slot_m_ga : Slot "re.Match" "__getattribute__" "object.__getattribute__" :=
  .of (owner := "object") (n := "__getattribute__") (by rw [typeLookup_type, builtinLookup_eq_fast]; kernel_rfl) (by decide +kernel) (by decide +kernel) (by decide +kernel)
    (by first | exact .inl (by decide +kernel) | exact .inr (by decide +kernel)) (by rw [isSubtype_type]; kernel_rfl)

theorem gs_get : typeLookup (.type "getset_descriptor") "__get__" = pure (some (.builtin "getset_descriptor.__get__")) := by rw [typeLookup_type, builtinLookup_eq_fast]; kernel_rfl
theorem gs_set : typeLookup (.type "getset_descriptor") "__set__" = pure (some (.builtin "getset_descriptor.__set__")) := by rw [typeLookup_type, builtinLookup_eq_fast]; kernel_rfl
theorem md_get : typeLookup (.type "member_descriptor") "__get__" = pure (some (.builtin "member_descriptor.__get__")) := by rw [typeLookup_type, builtinLookup_eq_fast]; kernel_rfl
theorem md_set : typeLookup (.type "member_descriptor") "__set__" = pure (some (.builtin "member_descriptor.__set__")) := by rw [typeLookup_type, builtinLookup_eq_fast]; kernel_rfl
theorem args_ga (a b : Value) : argsOk "object.__getattribute__" ⟨[a, b], []⟩ := F.args_object_getattribute_2 a b
theorem fn_owner : descrOwnerAndName "function.__name__" = ("function", "__name__") := by decide +kernel
theorem gs_fn {R : Result → Shared → Prop} {a : Addr} {sl : Array (Option Value)} {fd : FuncData} {tp : Value} (ho : s.heap.get? a = some { cls := .type "function", data := .func fd, slots := sl }) (hz : fd.name.length ≤ sizeLine) (h : R (.ok (.ret (.str fd.name s.toks))) { s with toks := s.toks + 1 }) :
    codeAny (model prog w) A (.call (.builtin "getset_descriptor.__get__") ⟨[.builtin "function.__name__", .ref a, tp], []⟩) R s := by
  obtain ⟨hh, g, dr, t, os⟩ := s
  dsimp only at ho
  have L0 : Looks (model prog w) hh (typeOf (.ref a)) (.type "function") := (Looks.ld ho).andThen .now
  have L1 : Looks (model prog w) hh (isSubtype (.type "function") (.type "function")) true := Looks.of_pure (by rw [isSubtype_type]; kernel_rfl)
  refine codeAny_call_builtin KF.slot_gs.plain KF.entry_gs (KF.slot_gs.check _ _ _ _ _ _ _ _ fn_type (KF.args_gs _ _ _) ?_)
  unfold Builtin.«getset_descriptor.__get__» descrGet
  rw [dga_obj]
  refine wpAny_bind (wpAny_pure ?_)
  unfold descrGetter descrCheckInstance descrNameAndClass isInstance
  simp only [fn_owner]
  repeat lk
  refine ⟨Code.quiet_builtin _ (by decide +kernel), codeAny_builtin fn_entry ?_⟩
  unfold Builtin.«function.__name__»
  dsimp only
  refine wpAny_bind ?_
  unfold funcData
  refine wpAny_bind (wpAny_load ho ?_)
  refine wpAny_pure ?_
  unfold retStr
  first
    | exact wpAny_bind (wpAny_bind (wpAny_mkStr (wpAny_pure (wpAny_pure h)) hz))
    | exact wpAny_bind (wpAny_mkStr (wpAny_pure h) hz)
    | exact wpAny_bind (wpAny_bind (wpAny_mkStr (wpAny_pure h) hz))
theorem m_owner : descrOwnerAndName "re.Match.string" = ("re.Match", "string") := by decide +kernel
theorem slot_md : Slot "member_descriptor" "__get__" "member_descriptor.__get__" :=
  .of (owner := "member_descriptor") (n := "__get__") (by rw [typeLookup_type, builtinLookup_eq_fast]; kernel_rfl) (by decide +kernel) (by decide +kernel) (by decide +kernel)
    (by first | exact .inl (by decide +kernel) | exact .inr (by decide +kernel)) (by rw [isSubtype_type]; kernel_rfl)
theorem md_str {R : Result → Shared → Prop} {a : Addr} {o : Obj} {vs : Array Value} {x : Value} {tp : Value} (ho : s.heap.get? a = some o) (hc : o.cls = .type "re.Match") (hd : o.data = .fields vs) (hx : vs[0]? = some x) (h : R (.ok (.ret x)) s) :
    codeAny (model prog w) A (.call (.builtin "member_descriptor.__get__") ⟨[.builtin "re.Match.string", .ref a, tp], []⟩) R s := by
  obtain ⟨hh, g, dr, t, os⟩ := s
  obtain ⟨cls, dd, data, sl⟩ := o
  dsimp only at ho hc hd
  subst hc hd
  have L0 : Looks (model prog w) hh (typeOf (.ref a)) (.type "re.Match") := (Looks.ld ho).andThen .now
  have L1 : Looks (model prog w) hh (isSubtype (.type "re.Match") (.type "re.Match")) true := Looks.of_pure (by rw [isSubtype_type]; kernel_rfl)
  refine codeAny_call_builtin slot_md.plain KF.entry_mem (slot_md.check _ _ _ _ _ _ _ _ type_match_string (KF.args_mem _ _ _) ?_)
  unfold Builtin.«member_descriptor.__get__» descrGet
  rw [dga_obj]
  refine wpAny_bind (wpAny_pure ?_)
  unfold descrGetter descrCheckInstance descrNameAndClass isInstance
  simp only [m_owner]
  repeat lk
  refine ⟨Code.quiet_builtin _ (by decide +kernel), codeAny_builtin entry_match_string ?_⟩
  unfold Builtin.«re.Match.string»
  dsimp only
  refine wpAny_bind (wpAny_field ho rfl hx ?_)
  exact wpAny_pure h
end
end Mine
end

section
open PySem PySem.W PyProof.Rows PySem.Calls Builtin Builtin.ObjectAttr Builtin.Getset_descriptor
namespace Mine
section
variable {prog : Program} {w : World} {A : Around} {E : Value → Shared → Prop} {s : Shared}
theorem attr_fn_name {a : Addr} {o : Obj} {fd : FuncData} {b : Bool} {Q : Value → Shared → Prop} (ho : s.heap.get? a = some o) (hc : o.cls = .type "function") (hd : o.data = .func fd) (hdi : o.dict = none) (hz : fd.name.length ≤ sizeLine)
    (h : ∀ t tk, Q (.str fd.name t) { s with toks := tk }) : wpAny (model prog w) A (getAttr (.ref a) "__name__" b) Q E s := by
  obtain ⟨hp, g, d, tk, os⟩ := s
  obtain ⟨cls, dd, data, sl⟩ := o
  dsimp only at ho hc hd hdi
  subst hc hd hdi
  have hT : ∀ g d tk os, (⟨hp, g, d, tk, os⟩ : Shared).TypeIs (.ref a) "function" := fun _ _ _ _ => ⟨_, ho, rfl⟩
  have f1 := fn_look
  have f2 := fn_ga
  have f3 := fn_noga
  have f4 := fn_type
  have f5 := slot_fn_ga.bind (.ref a)
  have f6 := gs_get
  have f7 := gs_set
  unfold getAttr getAttrBy
  repeat (any_goals (first | assumption | wp_step))
  rw [if_neg (by cases b <;> decide)]
  unfold boundAndCalled
  refine wpAny_bind (wpAny_of_eq f5 ?_)
  dsimp only
  refine wpAny_call_entry slot_fn_ga (hT _ _ _ _) F.entry_object_getattribute ?_ (args_ga _ _)
  unfold Builtin.«object.__getattribute__»
  repeat (any_goals (first | assumption | wp_step))
  refine gs_fn (s := ⟨hp, g, d, _, os⟩) ho hz ?_
  refine wpAny_pure ⟨_, rfl, ?_⟩
  exact wpAny_pure (h _ _)
theorem attr_m_string {a : Addr} {o : Obj} {vs : Array Value} {x : Str} {u : Tok} {b : Bool} {Q : Value → Shared → Prop} (ho : s.heap.get? a = some o) (hc : o.cls = .type "re.Match") (hd : o.data = .fields vs) (hdi : o.dict = none) (hx : vs[0]? = some (.str x u))
    (h : ∀ tk, Q (.str x u) { s with toks := tk }) : wpAny (model prog w) A (getAttr (.ref a) "string" b) Q E s := by
  obtain ⟨hp, g, d, tk, os⟩ := s
  obtain ⟨cls, dd, data, sl⟩ := o
  dsimp only at ho hc hd hdi
  subst hc hd hdi
  have hT : ∀ g d tk os, (⟨hp, g, d, tk, os⟩ : Shared).TypeIs (.ref a) "re.Match" := fun _ _ _ _ => ⟨_, ho, rfl⟩
  have f1 := m_look
  have f2 := m_ga
  have f3 := m_noga
  have f4 := type_match_string
  have f5 := slot_m_ga.bind (.ref a)
  have f6 := md_get
  have f7 := md_set
  unfold getAttr getAttrBy
  repeat (any_goals (first | assumption | wp_step))
  rw [if_neg (by cases b <;> decide)]
  unfold boundAndCalled
  refine wpAny_bind (wpAny_of_eq f5 ?_)
  dsimp only
  refine wpAny_call_entry slot_m_ga (hT _ _ _ _) F.entry_object_getattribute ?_ (args_ga _ _)
  unfold Builtin.«object.__getattribute__»
  repeat (any_goals (first | assumption | wp_step))
  refine md_str (s := ⟨hp, g, d, _, os⟩) ho rfl rfl hx ?_
  refine wpAny_pure ⟨_, rfl, ?_⟩
  exact wpAny_pure (h _)
end
end Mine
end

section
open PySem PySem.W PyProof.Rows PySem.Calls
namespace Mine

noncomputable def fdOf (K : Frag) (fa : Addr) : FuncData := match K.lookup fa with
  | some ⟨_, _, .func fd, _⟩ => fd
  | _ => { name := "", qualname := "", params := { posonlyargs := [], args := [], vararg := none, kwonlyargs := [], kw_defaults := [], kwarg := none, defaults := [] }, body := .stmts [], scope := { kind := .function, names := [], isGenerator := false, isCoroutine := false }, globals := 0, closure := [], defaults := .none, kwdefaults := .none, doc := .none, pyModule := .none, annotations := none, code := .none, closureTuple := .none, builtins := 0 }
noncomputable def bodyOf (fd : FuncData) : List Stmt := match fd.body with
  | .stmts b => b
  | _ => []
noncomputable abbrev fdP (P : Params) (fa : Addr) : FuncData := fdOf (hd.heap_39 P) fa

section
variable {prog : Program} {w : World} {base : Heap} {d : Nat} {A : Around} {s : Shared} {E : Value → Shared → Prop} {P : Params}

theorem call_raises {env : Env} {o : Expr} {name : Str} {apos pos : Pos} {args : List Expr} {Q : Value → Shared → Prop} (hbase : attributeBase o name env (eval o env) = eval o env)
    (hfew : ((backTo pos (starEach args env)).all (fun x => !x.1) && (backToKw pos (keywordEach [] env)).all (fun x => x.1.isSome)
      && decide (args.length + ([] : List Keyword).length + (if ([] : List Keyword).isEmpty then 0 else 1) < 30)) = true)
    (h : wpAny (model prog w) A (eval o env) (fun ov s₁ => ∀ pl : Sem Bool, wpAny (model prog w) A (getMethod ov name pl) (fun _ _ => False) E s₁) E s) : wpAny (model prog w) A (eval (.Call (.Attribute o name apos) args [] pos) env) Q E s := by
  rw [arm_eval_Call, hbase]
  refine wpAny_bind (wpAny_mono h (fun ov s₁ h₁ => ?_) fun _ _ e => e)
  refine wpAny_bind (wpAny_standAt ?_)
  have hform : methodCallForm (args.length + ([] : List Keyword).length) (backTo pos (starEach args env)) (backToKw pos (keywordEach [] env)) = true := hfew
  unfold methodCall
  rw [hform]
  exact wpAny_bind (wpAny_holding (wpAny_mono (h₁ _) (fun _ _ x => x.elim) fun _ _ x => x))
theorem cr (X : (hd.heap_39 P).In s.heap) : s.heap.CodeRec (fdP P 46).code (fdP P 46).qualname := codeRec_of X (by kernel_rfl)

theorem unm_none (W : Wd (hd.heap_39 P) base d A s.heap) (hdd : d + 3 ≤ 500) {l : List Env} (hl : A.frames = some l)
    (hE : ∀ e h' tk, Fly base s.heap l e (.type "AttributeError") h' → E (.ref e) { s with heap := h', toks := tk }) : wpAny (model prog w) A (call (.ref 46) [.none]) (fun _ _ => False) E s := by
  obtain ⟨oc, od, osl, hK⟩ : ∃ oc od osl, (hd.heap_39 P).lookup 46 = some ⟨oc, od, .func (fdP P 46), osl⟩ := ⟨_, _, _, rfl⟩
  obtain ⟨l', hl', hf, hcl⟩ := W.fr
  obtain rfl : l = l' := by rw [hl] at hl'; exact Option.some.inj hl'
  have nL := none_at s.heap
  refine wpAny_call (call_cells_c (fd := fdP P 46) (body := bodyOf (fdP P 46)) (binds := [("match", .none)]) W.room (W.K _ _ hK) rfl W.nolim (cr W.K) rfl (binds_match _ ⟨rfl, rfl, rfl, rfl, rfl⟩ rfl) rfl (fun x hx => by
    rw [List.mem_singleton.mp hx]; exact .inl rfl) (fun s₁ X c => ?_) rfl rfl rfl)
  obtain ⟨h₁, t₁, rfl⟩ := X.toInCall.same
  have kk : ∀ b o, s.heap.get? b = some o → h₁.get? b = some o := X.toInCall.keep
  refine wpAny_execs_cons (wpAny_Assign_stores ?_ rfl rfl)
  have hns : (callEnvC (fdP P 46) s.heap.objs.size 46).kindOf "match" = some .local := rfl
  refine call_raises rfl rfl (wpAny_Name (wpAny_loadName_local rfl hns X.toInCall.ns (v := .none) rfl fun pl => ?_))
  refine method_none (by rw [typeLookup_type, builtinLookup_eq_fast]; kernel_rfl) W.handled (fun h' tk e hx => ?_) (by decide +kernel)
  obtain ⟨t, u, he⟩ := hx.there
  have nG : ∀ b, h₁.get? b = none → s.heap.get? b = none := fun b q => by
    cases x : s.heap.get? b with
    | none => rfl
    | some o => rw [kk b o x] at q; cases q
  obtain ⟨oL, eL, cL⟩ := c
  have nsL := X.toInCall.ns
  refine leave_new (G := s.heap) (L := s.heap.objs.size) (Around.frames_deeper hl) rfl (show ScopeKind.function ≠ ScopeKind.module by decide) W.stays hf (fun b o q => hx.keeps b o (kk b o q)) nL ?_ he (nG e hx.new) rfl rfl rfl fun h'' F => ?_
  · obtain ⟨o, es, ep, e1, e2, _⟩ := nsL
    exact ⟨o, hx.keeps _ _ e1, fun vs q => by rw [e2] at q; cases q⟩
  · exact hE e h'' _ F
end
end Mine
end

section
open PySem PySem.W PyProof.Rows PySem.Calls
namespace Mine

theorem safe_binds (P : Params) (s : Shared) (X : (hd.heap_39 P).In s.heap) (a b c : Value) : Binds s (fdP P 39) [a, b, c] [("value", a), ("what", b), ("func", c)] :=
  binds_w3 (T := 32) a b c ⟨rfl, rfl, rfl, rfl, rfl⟩ rfl (X 32 _ rfl) rfl
theorem fnAt_safe (P : Params) : FnAt (hd.heap_39 P) 39 (fdP P 39) (bodyOf (fdP P 39)) ["value", "what", "func"] :=
  ⟨⟨_, _, _, rfl⟩, rfl, rfl, rfl, by kernel_rfl, rfl, bind_of3 (safe_binds P), by decide +kernel, psB_k (by kernel_rfl), scopeB_n (by kernel_rfl), scopeB_f (by kernel_rfl), rfl, rfl, rfl⟩

noncomputable abbrev failText : Str := "<host unmatched() failed>"

section
variable {prog : Program} {w : World} {base : Heap} {d : Nat} {A : Around} {s : Shared} {E : Value → Shared → Prop} {P : Params}

/-- the landing in the frame env of what is under way -/
theorem land_bare {env : Env} {l : List Env} {L e : Addr} {cls : Value} {G : Heap} {b₀ : Stmt} {suite : List Stmt} {pos : Pos} {rest : List ExceptHandler} {Q : Flow → Shared → Prop} (hfr : A.frames = some (env :: l)) (hf : env.frame = some L)
    (F : Fly base G (env :: l) e cls s.heap)
    (h : ∀ h', Fly base G (env :: l) e cls h' → wpAny (model prog w) (A.mark (some (.ref e))) (execs (b₀ :: suite) env) Q (notedBy (model prog w) (A.mark (some (.ref e))) env (cameBackBy (model prog w) A env E)) { s with heap := h' }) :
    wpAny (model prog w) A (noteFrame (.ref e) env) (fun _ s₂ => wpAny (model prog w) A (setFlight (.ref e) none) (fun _ s₃ =>
      wpAny (model prog w) A (handleBy (.ref e) env (.ExceptHandler none none (b₀ :: suite) pos :: rest)) Q E s₃) E s₂) E s := by
  obtain ⟨⟨B, a0, b1, b2, fl⟩, up⟩ := F
  refine wpAny_looks_onW hfr hf fl fun h₄ hheld₄ hsm₄ => ?_
  refine wpAny_landsW hheld₄ fun h₅ hheld hsm₅ => ?_
  refine handleBy_bare (by intro q; cases q) ?_
  refine lands_againW hheld fun h₆ hfl₆ hsm₆ => ?_
  exact h h₆ ⟨⟨B, a0, b1, b2, hfl₆⟩, up.trans (hsm₄.trans (hsm₅.trans hsm₆))⟩

theorem safe_none {t : Tok} (W : Wd (hd.heap_39 P) base d A s.heap) (hdd : d + 5 ≤ 500) :
    wpAny (model prog w) A (call (.ref 39) [.none, .str "host" t, .ref 46]) (fun v s' => (∃ t, v = .str failText t) ∧ Keep base s s') E s := by
  have Fa := fnAt_safe P
  obtain ⟨oc, od, osl, hK⟩ := Fa.at_
  obtain ⟨l, hl, hf, hcl⟩ := W.fr
  refine wpAny_call (call_cells_c (fd := fdP P 39) (body := bodyOf (fdP P 39)) (binds := [("value", .none), ("what", .str "host" t), ("func", .ref 46)]) W.room (W.K _ _ hK) rfl W.nolim (codeRec_of W.K (by kernel_rfl)) rfl (safe_binds P s W.K _ _ _) rfl (fun x hx => .inl (by
    rcases List.mem_cons.mp hx with rfl | hx
    · rfl
    · rcases List.mem_cons.mp hx with rfl | hx
      · rfl
      · rw [List.mem_singleton.mp hx]; rfl)) (fun s₁ X c => ?_) rfl rfl rfl)
  obtain ⟨h₁, t₁, rfl⟩ := X.toInCall.same
  have kk : ∀ b o, s.heap.get? b = some o → h₁.get? b = some o := X.toInCall.keep
  have W1 := entry_wd Fa W (by omega) X.toInCall.ns X.toInCall.keep c
  have hfun1 := W1.fr
  obtain ⟨l1, hl1, hf1, hcl1⟩ := hfun1
  have hl1' : (A.deeper (callEnvC (fdP P 39) s.heap.objs.size 39)).frames = some (callEnvC (fdP P 39) s.heap.objs.size 39 :: l) := Around.frames_deeper hl
  obtain rfl : callEnvC (fdP P 39) s.heap.objs.size 39 :: l = l1 := by rw [hl1'] at hl1; exact Option.some.inj hl1
  generalize hEnv : callEnvC (fdP P 39) s.heap.objs.size 39 = env at *
  have k1 : env.kindOf "value" = some .local := by rw [← hEnv]; rfl
  have k2 : env.kindOf "what" = some .local := by rw [← hEnv]; rfl
  have k3 : env.kindOf "func" = some .local := by rw [← hEnv]; rfl
  have ks : env.scope.kind = .function := by rw [← hEnv]; rfl
  have kf : env.frame = some s.heap.objs.size := by rw [← hEnv]; rfl
  have ns := X.toInCall.ns
  have m1 : bindL env.kindOf [("value", .none), ("what", .str "host" t), ("func", .ref 46)] (fun _ => none) "value" = some .none := by rw [← hEnv]; rfl
  have m2 : bindL env.kindOf [("value", .none), ("what", .str "host" t), ("func", .ref 46)] (fun _ => none) "what" = some (.str "host" t) := by rw [← hEnv]; rfl
  have m3 : bindL env.kindOf [("value", .none), ("what", .str "host" t), ("func", .ref 46)] (fun _ => none) "func" = some (.ref 46) := by rw [← hEnv]; rfl
  obtain ⟨osl', hK46⟩ : ∃ osl, (hd.heap_39 P).lookup 46 = some ⟨.type "function", none, .func (fdP P 46), osl⟩ := ⟨_, rfl⟩
  refine wpAny_execs_cons (wpAny_Try_except ?_)
  refine wpAny_execs_cons (wpAny_Return_some (Call_Name rfl (wpAny_Name (wpAny_loadName_local ks k3 ns m3 ?_))))
  refine PySem.Calls.callWith_function (o := ⟨.type "function", none, .func (fdP P 46), osl'⟩) (fd := fdP P 46) (evalArgs_plain (spliced_cons (wpAny_Name (wpAny_loadName_local ks k1 ns m1 (spliced_nil ⟨⟨W1.K _ _ hK46, rfl⟩, ?_⟩)))))
  refine wpAny_mono (unm_none W1 (by omega) hl1 fun e h' tk F => ?_) (fun _ _ x => x.elim) fun _ _ x => x
  refine land_bare (G := h₁) (s := { s with heap := h', toks := tk }) hl1 kf F fun h6 F6 => ?_
  have ext6 : Hext base h₁ h6 := fly_hext F6 hf1 hcl1
  have ns6 := ext6.ns (fun m => nomatch m) ns
  have X6 : (hd.heap_39 P).In h6 := W1.b.inK.keeps (ext6.stays (fun _ m => nomatch m) W1.stays)
  refine wpAny_execs_cons (wpAny_Return_some (JoinedStr_many ?_))
  refine joinParts_cons (Constant_str ⟨by decide +kernel, ?_⟩)
  refine joinParts_cons (FormattedValue_plain (wpAny_Name (wpAny_loadName_local ks k2 ns6 m2 (formatField_str (fun t' tk' => ⟨by decide +kernel, ?_⟩) (by decide +kernel)))))
  refine joinParts_cons (Constant_str ⟨by decide +kernel, ?_⟩)
  have nm : (fdP P 46).name = "unmatched" := by kernel_rfl
  refine joinParts_cons (FormattedValue_plain (Attribute_Name_ (wpAny_Name (wpAny_loadName_local ks k3 ns6 m3 (attr_fn_name (X6 _ _ hK46) rfl rfl rfl (by rw [nm]; decide +kernel) fun t2 tk2 => ?_)))))
  rw [nm]
  refine formatField_str (fun t' tk' => ⟨by decide +kernel, ?_⟩) (by decide +kernel)
  refine joinParts_cons (Constant_str ⟨by decide +kernel, ?_⟩)
  have e : ((((Str.empty ++ ("<" : Str)) ++ ("host" : Str)) ++ (" " : Str)) ++ ("unmatched" : Str)) ++ ("() failed>" : Str) = failText := by decide +kernel
  rw [e]
  exact joinParts_nil ⟨⟨_, rfl⟩, keeps_ext s _ _ (hext_trans (.of' kk) ext6)⟩ (by decide +kernel)
end
end Mine
end

section
open PySem PySem.W PyProof.Rows PySem.Calls
namespace Mine

section
variable {prog : Program} {w : World} {K : Frag} {base : Heap} {d : Nat} {env : Env} {ρ : List (Str × Bnd)} {e l r v i : Expr} {pos p px py apos : Pos} {x : Str} {F F1 F2 : List Addr → Heap → Heap → Value → Prop}

theorem ev_ob {x : Str} {p : Pos} {P : ObP} (hx : ρ.lookup x = some (.ob P)) (hd : (x == ("__debug__" : Str)) = false := by decide) : Ev prog w K base d env ρ (.Name x p) (fun Z _ h v => P.P Z h v) := fun A Z s E W N => by
  obtain ⟨v, ft, hv, hb, _⟩ := N.var x _ hx
  exact wpAny_Name (hv.load N.fw.kind ⟨hb.2, keeps_refl s⟩) hd

theorem idx_to (n j : Nat) (hj : j ≤ n) : Builtin.Str.strSliceIndices none (some (j : Int)) 1 n = List.range j := by
  have h1 : ¬ ((j : Int) < 0) := by omega
  have h2 : max 0 (min (j : Int) (n : Int)) = (j : Int) := by omega
  have e : Builtin.Str.strSliceIndices none (some (j : Int)) 1 n = sliceRange 0 (j : Int) 1 := by
    unfold Builtin.Str.strSliceIndices
    simp only [h1, if_false, show (1 : Int) > 0 by decide, if_true, h2]
  rw [e]
  unfold sliceRange
  simp only [show (1 : Int) > 0 by decide, if_true]
  have : (if (0 : Int) < (j : Int) then ((j : Int) - 0 + 1 - 1) / 1 else 0).toNat = j := by split <;> omega
  rw [this]
  apply List.ext_getElem
  · simp
  · intro k h1 h2
    simp
theorem filterMap_range {α : Type} (xs : Array α) : ∀ j, j ≤ xs.size → (List.range j).filterMap (xs[·]?) = xs.toList.take j
  | 0, _ => rfl
  | j + 1, h => by
    rw [List.range_succ, List.filterMap_append, filterMap_range xs j (by omega), List.take_add_one]
    congr 1
    have e1 : xs[j]? = some xs[j] := Array.getElem?_eq_getElem (by omega)
    rw [List.filterMap_cons, e1]
    simp [e1]
theorem slice_to (x : Str) (j : Nat) (hj : j ≤ x.length) : Txt.slice x none (some (j : Int)) = ⟨(x.cps.toList.take j).toArray⟩ := by
  unfold Txt.slice
  rw [idx_to _ _ hj, filterMap_range _ _ hj]
  split
  · rename_i h
    simp only [List.length_range, Bool.and_eq_true, beq_iff_eq] at h
    have : x.cps.toList.take j = x.cps.toList := List.take_of_length_le (by rw [h.2]; simp [Str.length])
    rw [this]
  · rfl
theorem idx_end (n : Nat) : Builtin.Str.strSliceIndices (some (n : Int)) none 1 n = [] := by
  have h1 : ¬ ((n : Int) < 0) := by omega
  have h2 : max 0 (min (n : Int) (n : Int)) = (n : Int) := by omega
  have e : Builtin.Str.strSliceIndices (some (n : Int)) none 1 n = sliceRange (n : Int) (n : Int) 1 := by
    unfold Builtin.Str.strSliceIndices
    simp only [h1, if_false, show (1 : Int) > 0 by decide, if_true, h2]
  rw [e]
  unfold sliceRange
  simp
theorem slice_end (x : Str) : Txt.slice x (some (x.length : Int)) none = ⟨#[]⟩ := by
  unfold Txt.slice
  rw [idx_end]
  split
  · rename_i h
    simp only [List.length_nil, Bool.and_eq_true, beq_iff_eq] at h
    obtain ⟨c⟩ := x
    have : c = #[] := Array.eq_empty_of_size_eq_zero h.2.symm
    rw [this]
  · rfl

theorem isSlice_of {h : Heap} {a : Addr} {vl vu : Value} {lo hi : Option Int} (hs : h.IsSliceOf a vl vu .none) (pl : IsPart vl lo) (pu : IsPart vu hi) : ∃ l u, h.IsSlice a l u none ∧ l.map (·.1) = lo ∧ u.map (·.1) = hi := by
  have key : ∀ {v : Value} {o : Option Int}, IsPart v o → ∃ l : Option (Int × Tok), v = partValue l ∧ l.map (·.1) = o := by
    intro v o p
    cases p with
    | none => exact ⟨none, rfl, rfl⟩
    | int i t => exact ⟨some (i, t), rfl, rfl⟩
  obtain ⟨l, rfl, e1⟩ := key pl
  obtain ⟨u, rfl, e2⟩ := key pu
  exact ⟨l, u, hs, e1, e2⟩

theorem getItem_strslice {A : Around} {s : Shared} {E : Value → Shared → Prop} {x : Str} {t : Tok} {a : Addr} {vl vu : Value} {lo hi : Option Int} {Q : Value → Shared → Prop} (hs : s.heap.IsSliceOf a vl vu .none) (pl : IsPart vl lo) (pu : IsPart vu hi) (hz : x.length ≤ sizeLine)
    (h : ∀ t' k, Q (.str (Txt.slice x lo hi) t') { s with toks := k }) : wpAny (model prog w) A (getItem (.str x t) (.ref a)) Q E s := by
  obtain ⟨l, u, h1, rfl, rfl⟩ := isSlice_of hs pl pu
  exact wpAny_getItem_str_slice h1 rfl (post_val_or_str ⟨Nat.le_trans (Txt.slice_le x _ _) hz, fun t' k => h t' k⟩)
theorem ev_strto {u : Expr} {j : Nat} {x : Str} (hv : Ev prog w K base d env ρ v (IsS (.str x))) (hu : Ev prog w K base d env ρ u (IsW (.int j))) (hj : j ≤ x.length) (hz : x.length ≤ 1000000) :
    Ev prog w K base d env ρ (.Subscript v (.Slice none (some u) none p) pos) (IsS (.str ⟨(x.cps.toList.take j).toArray⟩)) :=
  ev_sub' hv (ev_sl_to hu) (good_S _) (good_S _) fun A Z s E a b _ _ W al p q => by
    obtain ⟨t, rfl⟩ := rep_str p
    obtain ⟨c, vl, vu, rfl, hs, pl, pu⟩ := q
    refine ⟨"str", _, F.slot_str_getitem.lookup, typeIs_str _ _ _, getItem_strslice hs pl pu (Nat.le_trans hz (by decide)) fun t' k => ?_⟩
    rw [slice_to x j hj]
    exact ⟨.str _ _, keeps_tok s _⟩
theorem ev_strend {u : Expr} {x : Str} (hv : Ev prog w K base d env ρ v (IsS (.str x))) (hu : Ev prog w K base d env ρ u (IsW (.int x.length))) (hz : x.length ≤ 1000000) :
    Ev prog w K base d env ρ (.Subscript v (.Slice (some u) none none p) pos) (IsS (.str ⟨#[]⟩)) :=
  ev_sub' hv (ev_sl_from hu) (good_S _) (good_S _) fun A Z s E a b _ _ W al p q => by
    obtain ⟨t, rfl⟩ := rep_str p
    obtain ⟨c, vl, vu, rfl, hs, pl, pu⟩ := q
    refine ⟨"str", _, F.slot_str_getitem.lookup, typeIs_str _ _ _, getItem_strslice hs pl pu (Nat.le_trans hz (by decide)) fun t' k => ?_⟩
    rw [slice_end]
    exact ⟨.str _ _, keeps_tok s _⟩
theorem ev_addstr {x y : Str} (hl : Ev prog w K base d env ρ l (IsW (.str x))) (hr : Ev prog w K base d env ρ r (IsW (.str y))) (hz : x.length + y.length ≤ 1000000) : Ev prog w K base d env ρ (.BinOp l .Add r pos) (IsS (.str (x ++ y))) :=
  ev_two hl hr (good_W _) (good_S _) fun A Z s E a b _ _ W al p q => by
    obtain ⟨t, rfl⟩ := rep_str p; obtain ⟨u, rfl⟩ := rep_str q
    exact PyProof.Rows.add_str (fun t' tk => ⟨.str _ _, keeps_tok s _⟩) (Nat.le_trans hz (by decide))

/-- (x, y) = e -/
theorem ex_pair {d1 d2 : PyData} {k : Nat} {x y : Str} {p1 p2 : Pos} (hx : Storable env x) (hy : Storable env y) (hne : x ≠ y) (h : Ev prog w K base d env ρ e (IsS (.tuple [d1, d2])))
    (hs : swapsWithSole [.Tuple [.Name x p1, .Name y p2] k px] e pos.line env = pure false) (hw : swappedStores [.Tuple [.Name x p1, .Name y p2] k px] e env = pure none) :
    Ex1 prog w K base d env ρ (.Assign [.Tuple [.Name x p1, .Name y p2] k px] e pos) (.next (fzs [(x, d1), (y, d2)] ++ ρ)) := fun A Y M h₀ s E W B S => by
  refine PyProof.Rows.Assign_Tuple (hs := hs) (hw := hw) (wpAny_mono (h A _ s E W S.nm) (fun v s₁ q => ?_) fun _ _ x => x)
  obtain ⟨r, h₁, t₁, rfl, k⟩ := q
  have S1 := S.keeps k
  have hsl : ∀ z ∈ ([(x, d1), (y, d2)] : List (Str × PyData)).map (·.1), Storable env z := fun z hz => by
    rcases List.mem_cons.mp hz with rfl | hz
    · exact hx
    · rw [List.mem_singleton.mp hz]; exact hy
  refine asg_pair hx hy hne A (Y ++ M) _ _ v _ W.handled S1.fw (fun a ha => List.mem_append_right _ (S.frameM a ha)) r fun h' tk T hb => ⟨h', tk, rfl, ⟨rfl, M, S1.binds T hsl hb, fun _ h => .inl h⟩, ⟨(k.less fun _ m => nomatch m).trans (Hout.of (M := (([(x, d1), (y, d2)] : List (Str × PyData)).map (·.1)).map (slotOf env)) T.out) (fun z hz => .inl ?_), (frOk_ext k).trans T.frames⟩⟩
  obtain ⟨y, hy', rfl⟩ := List.mem_map.mp hz
  exact S.frameM _ (slot_mem (hsl y hy'))
end
end Mine
end

section
open PySem PySem.W PyProof.Rows PySem.Calls
namespace Mine

/-- a match, kept apart from Z -/
noncomputable def MatchP (x : Str) (b e : Nat) (Z : List Addr) (h : Heap) (v : Value) : Prop :=
  ∃ a T u pat i1 i2 i3, v = .ref a ∧ a ∉ Z ∧ T ∉ Z ∧ h.get? a = some { cls := .type "re.Match", data := .fields #[.str x u, pat, i1, i2, i3, .ref T] } ∧ h.get? T = some { cls := .type "tuple", data := .seq #[rawInt b, rawInt e] }
noncomputable def obM (x : Str) (b e : Nat) : ObP := ⟨MatchP x b e, fun {Z Z' h h' v} hz hk q => by
  obtain ⟨a, T, u, pat, i1, i2, i3, e1, e2, e3, e4, e5⟩ := q
  exact ⟨a, T, u, pat, i1, i2, i3, e1, hz _ _ e4 e2, hz _ _ e5 e3, hk _ _ e2 (show ¬ Value.type "re.Match" = Value.type "frame" by decide) e4, hk _ _ e3 (show ¬ Value.type "tuple" = Value.type "frame" by decide) e5⟩⟩
theorem match_of {x : Str} {b e : Nat} {h₀ h : Heap} {a : Addr} {Z : List Addr} (m : IsM x b e h₀ h a) (al : ∀ a ∈ Z, ∃ o, h₀.get? a = some o) : MatchP x b e Z h (.ref a) := by
  obtain ⟨T, u, pat, i1, i2, i3, e1, e2, e3, e4⟩ := m
  exact ⟨a, T, u, pat, i1, i2, i3, rfl, fun m => (by obtain ⟨o, q⟩ := al _ m; rw [e1] at q; cases q), fun m => (by obtain ⟨o, q⟩ := al _ m; rw [e2] at q; cases q), e3, e4⟩

section
variable {prog : Program} {w : World} {A : Around} {E : Value → Shared → Prop} {s : Shared}
theorem call_span {x : Str} {b e : Nat} {Z : List Addr} {v : Value} {t : Tok} {Q : Value → Shared → Prop} (hm : MatchP x b e Z s.heap v)
    (h : ∀ h' tk a t1 t2, (∀ b o, s.heap.get? b = some o → h'.get? b = some o) → s.heap.get? a = none → h'.get? a = some { cls := .type "tuple", data := .seq #[.int b t1, .int e t2] } → Q (.ref a) { s with heap := h', toks := tk }) :
    wpAny (model prog w) A (call (.builtin "re.Match.span") [v, .int 0 t]) Q E s := by
  obtain ⟨a, T, u, pat, i1, i2, i3, rfl, ha, hT, ho, hoT⟩ := hm
  refine wpAny_call_entry slot_match_span ⟨_, ho, rfl⟩ entry_match_span ?_ (args_span _ _)
  unfold Builtin.«re.Match.span» Builtin.Re.reOneGroup
  refine wpAny_bind (wpAny_bind (wpAny_of_eq (show selfAndSome "Match.span" "span" 0 1 ⟨[.ref a, .int 0 t], []⟩ = pure (.ref a, [.int 0 t]) from rfl) ?_))
  dsimp only
  unfold Builtin.Re.reFound Builtin.Re.reRawItems
  refine wpAny_bind (wpAny_bind (wpAny_fieldsOf ho rfl ?_))
  refine wpAny_bind (wpAny_bind (show wpAny _ _ (seqItems? (.ref T)) _ _ _ from wpAny_seqItems hoT rfl ?_))
  have em : Array.map Builtin.Re.reRawOf ((some #[rawInt (b : Int), rawInt (e : Int)]).getD #[]) = #[(b : Int), (e : Int)] := by simp [Builtin.Re.reRawOf, rawInt]
  rw [em]
  refine wpAny_pure (wpAny_pure (wpAny_bind ?_))
  have eg : Builtin.Re.reGroupNumber { fields := #[Value.str x u, pat, i1, i2, i3, Value.ref T], spans := #[(b : Int), (e : Int)] } (.int 0 t) = pure 0 := by rfl
  rw [eg]
  refine wpAny_pure (wpAny_pure ?_)
  dsimp only
  refine wpAny_bind (wpAny_mkInt' (wpAny_bind (wpAny_mkInt' (wpAny_bind (wpAny_newTuple ?_ (by show (2 : Nat) ≤ sizeLine; rw [sizeLine_eq]; omega))))))
  refine wpAny_pure ⟨_, rfl, ?_⟩
  exact h _ _ _ _ _ push_new' (none_at _) (Heap.get?_push_size _ rfl)
end
end Mine
end

section
open PySem PySem.W PyProof.Rows PySem.Calls
namespace Mine

section
variable {prog : Program} {w : World} {K : Frag} {base : Heap} {d : Nat} {env : Env} {ρ : List (Str × Bnd)} {pos p p' apos : Pos} {m : Str} {x : Str} {j n : Nat}
theorem ev_span {k : Nat} (hm : ρ.lookup m = some (.ob (obM x j n))) (hline : (apos.endLine == pos.line) = true) (hd : (m == ("__debug__" : Str)) = false := by decide)
    (hbase : attributeBase (.Name m p) "span" env (eval (.Name m p) env) = eval (.Name m p) env := by rfl) (hs : starEach [.Constant (.int 0) k p'] env = [(false, eval (.Constant (.int 0) k p') env)] := by rfl) :
    Ev prog w K base d env ρ (.Call (.Attribute (.Name m p) "span" apos) [.Constant (.int 0) k p'] [] pos) (IsS (.tuple [.int j, .int n])) := fun A Z s E W N => by
  refine Call_method1 hbase hs hline (wpAny_mono (ev_ob hm hd A Z s E W N) (fun v s₁ q => ?_) fun _ _ x => x)
  obtain ⟨q, k1⟩ := q
  have al := (N.keeps (kext k1)).alive
  have q' : MatchP x j n Z s₁.heap v := q
  obtain ⟨a, T, u, pat, i1, i2, i3, rfl, ha, hT, ho, hoT⟩ := id q'
  refine ⟨"re.Match", "re.Match.span", plainAttrs_match, slot_match_span, type_match_span, ⟨_, ho, rfl⟩, (fun a e => by cases e; exact ⟨_, ho, rfl⟩), ?_⟩
  refine PySem.Calls.callWith_builtin rfl (evalArgs_plain (spliced_cons (wpAny_Constant_int (spliced_nil (call_span (s := { s₁ with toks := s₁.toks + 1 }) q' fun h' tk a t1 t2 kk ha' hg => ?_)))))
  refine ⟨.tuple (vs := [.int j t1, .int n t2]) (fun m => ?_) ⟨_, hg, rfl, _, rfl⟩ (.cons (.int _ _) (.cons (.int _ _) .nil)), keeps_trans k1 (keeps_heap s₁ h' tk kk)⟩
  obtain ⟨o, e⟩ := al a m
  have ha'' : s₁.heap.get? a = none := ha'
  rw [ha''] at e; cases e
theorem ev_mstr (hm : ρ.lookup m = some (.ob (obM x j n))) (hd : (m == ("__debug__" : Str)) = false := by decide)
    (he : eval (.Attribute (.Name m p) "string" pos) env = (do
      let o ← eval (.Name m p) env
      standAt pos.atName
      let r ← holding [o] (getAttr o "string" true)
      letTemporaryGo (.Name m p) o r
      pure r) := by with_unfolding_all rfl) :
    Ev prog w K base d env ρ (.Attribute (.Name m p) "string" pos) (IsS (.str x)) := fun A Z s E W N => by
  refine Attribute_Name_ (he := he) (wpAny_mono (ev_ob hm hd A Z s E W N) (fun v s₁ q => ?_) fun _ _ x => x)
  obtain ⟨⟨a, T, u, pat, i1, i2, i3, rfl, ha, hT, ho, hoT⟩, k1⟩ := q
  exact attr_m_string ho rfl rfl rfl rfl fun tk => ⟨.str _ _, keeps_trans k1 (keeps_tok s₁ tk)⟩
end

theorem fnAt_unm (P : Params) : FnAt (hd.heap_39 P) 46 (fdP P 46) (bodyOf (fdP P 46)) ["match"] :=
  ⟨⟨_, _, _, rfl⟩, rfl, rfl, rfl, by kernel_rfl, rfl, bind_of1 fun _ x => binds_match x ⟨rfl, rfl, rfl, rfl, rfl⟩ rfl, by decide +kernel, psB_k (by kernel_rfl), scopeB_n (by kernel_rfl), scopeB_f (by kernel_rfl), rfl, rfl, rfl⟩

theorem str_cat_nil (x : Str) : x ++ (⟨#[]⟩ : Str) = x := by
  show Str.append x ⟨#[]⟩ = x
  cases x; simp [Str.append]
theorem fn_unm {prog : Program} {w : World} {base : Heap} {P : Params} {x : Str} {j : Nat} (hj : j ≤ x.length) (hz : x.length ≤ 100000) : FnB prog w (hd.heap_39 P) base 2 46 [.ob (obM x j x.length)] (.str ⟨(x.cps.toList.take j).toArray⟩) := by
  refine fnB_intro (fnAt_unm P) rfl (by decide) fun d L hd => ?_
  generalize hE : callEnvC (fdP P 46) L 46 = env
  have k1 : env.kindOf "start" = some .local := by rw [← hE]; rfl
  have k2 : env.kindOf "end" = some .local := by rw [← hE]; rfl
  refine ex_cons (ex_pair (x := "start") (y := "end") (.inl k1) (.inl k2) (by decide) (ev_span (m := "match") rfl rfl) rfl rfl) (ex_stop (ex_return ?_))
  refine (str_cat_nil ⟨(x.cps.toList.take j).toArray⟩) ▸ ev_addstr (x := ⟨(x.cps.toList.take j).toArray⟩) (y := ⟨#[]⟩) (ev_strto (j := j) (ev_mstr (m := "match") (j := j) (n := x.length) rfl) (ev_fz (dx := .int j) rfl).s_w hj (by omega)).s_w (ev_strend (x := x) (ev_mstr (m := "match") (j := j) (n := x.length) rfl) (ev_fz (dx := .int x.length) rfl).s_w (by omega)).s_w ?_
  show (List.toArray _).size + 0 ≤ _
  rw [List.size_toArray, List.length_take]
  omega
end Mine
end

section
open PySem PySem.W PyProof.Rows PySem.Calls
namespace Mine

noncomputable def obV (u : Value) : ObP := ⟨fun _ _ v => v = u, fun _ _ e => e⟩

section
variable {prog : Program} {w : World} {K : Frag} {base : Heap} {d n : Nat} {env : Env} {ρ : List (Str × Bnd)} {pos p p' apos : Pos} {m : Str} {x : Str} {fa : Addr} {fd : FuncData} {body : List Stmt} {ps : List Str} {bs : List Bnd} {res : PyData}
theorem ex_try {h₀ : ExceptHandler} {hs : List ExceptHandler} {dd : PyData} (h : Ex prog w K base d env ρ body (.ret dd)) : Ex1 prog w K base d env ρ (.Try body (h₀ :: hs) [] [] pos) (.ret dd) := fun A Y M h₀ s E W B S => by
  refine wpAny_Try_except (wpAny_mono (h A Y M h₀ s _ W B S) (fun f s₁ q => ?_) fun _ _ x => x)
  obtain ⟨h', tk, rfl, ⟨v, rfl, r⟩, C⟩ := q
  exact ⟨h', tk, rfl, ⟨v, rfl, r⟩, C⟩

/-- a call of a function, in an expression: the arguments as they are bound -/
theorem FnB.ev {es : List Expr} (h : FnB prog w K base n fa bs res) (hd : d + n ≤ 500) (F : FnAt K fa fd body ps) (hf : Ev prog w K base d env ρ (.Name x p) (fun _ _ _ v => v = .ref fa))
    (he : Evs prog w K base d env ρ pos es (fun Z _ h vs => AllB Z h vs bs)) (hc : ∃ t r, backTo pos (starEach es env) = (false, t) :: r := by exact ⟨_, _, rfl⟩) : Ev prog w K base d env ρ (.Call (.Name x p) es [] pos) (IsS res) := fun A Z s E W N => by
  obtain ⟨oc, od, osl, hK⟩ := F.at_
  refine Call_Name rfl (wpAny_mono (hf A Z s E W N) (fun f s₁ q => ?_) fun _ _ x => x)
  obtain ⟨rfl, k1⟩ := q
  refine PySem.Calls.callWith_function (o := ⟨oc, od, .func fd, osl⟩) (fd := fd) ?_
  obtain ⟨t, rr, ht⟩ := hc
  have he' := he A Z s₁ E (W.keeps (kext k1)) (N.keeps (kext k1))
  rw [ht] at he' ⊢
  refine evalArgs_plain (wpAny_mono he' (fun vs s₂ q₂ => ?_) fun _ _ x => x)
  obtain ⟨r2, k2⟩ := q₂
  have k12 := keeps_trans k1 k2
  refine ⟨⟨(W.keeps (kext k12)).K _ _ hK, rfl⟩, ?_⟩
  refine wpAny_mono (h d A Z s₂ E vs hd (W.keeps (kext k12)) (N.keeps (kext k12)).alive r2) (fun v s₃ q₃ => ?_) fun _ _ x => x
  exact ⟨q₃.1, keeps_trans k12 q₃.2⟩
theorem ev_obv {u : Value} (hx : ρ.lookup x = some (.ob (obV u))) (hd : (x == ("__debug__" : Str)) = false := by decide) : Ev prog w K base d env ρ (.Name x p) (fun _ _ _ v => v = u) := ev_ob hx hd
end

theorem fn_safe_some {prog : Program} {w : World} {base : Heap} {P : Params} {x : Str} {j : Nat} (hj : j ≤ x.length) (hz : x.length ≤ 100000) :
    FnB prog w (hd.heap_39 P) base 4 39 [.ob (obM x j x.length), .fz (.str "host"), .ob (obV (.ref 46))] (.str ⟨(x.cps.toList.take j).toArray⟩) := by
  refine fnB_intro (fnAt_safe P) rfl (by decide) fun d L hdd => ?_
  generalize hE : callEnvC (fdP P 39) L 39 = env
  refine ex_stop (ex_try (ex_stop (ex_return ?_)))
  refine FnB.ev (fn_unm hj hz) (by omega) (fnAt_unm P) (ev_obv (u := .ref 46) rfl) ?_
  intro A Z s E W N
  refine wpAny_mono (evs_one (es := []) (ev_ob (P := obM x j x.length) rfl) rfl A Z s E W N) (fun vs s₁ q => ?_) fun _ _ x => x
  obtain ⟨⟨v, rfl, q⟩, k⟩ := q
  exact ⟨⟨⟨rfl, q⟩, trivial⟩, k⟩

section
variable {prog : Program} {w : World} {base : Heap} {d : Nat} {env : Env} {ρ : List (Str × Bnd)} {pos p1 p2 p3 p4 p5 apos cpos : Pos} {P : Params} {e : Expr} {x : Str}
/-- the search's answer -/
theorem ev_search_some {j : Nat} (hz : x.length < 100000) (hj : j + 1 < x.length) (hc : x.cps.getD j 0 = 46) (hd' : ∀ i, j < i → i < x.length → Sre.isDigit (x.cps.getD i 0) = true)
    (hk : env.kindOf "IPV4_RE" = some .globalImplicit) (he : Ev prog w (hd.heap_39 P) base d env ρ e (IsW (.str x))) (hline : (apos.endLine == pos.line) = true)
    (hbase : attributeBase (.Name "IPV4_RE" p1) "search" env (eval (.Name "IPV4_RE" p1) env) = eval (.Name "IPV4_RE" p1) env := by rfl) (hs : starEach [e] env = [(false, eval e env)] := by rfl) :
    Ev prog w (hd.heap_39 P) base d env ρ (.Call (.Attribute (.Name "IPV4_RE" p1) "search" apos) [e] [] pos) (fun Z _ h v => MatchP x j x.length Z h v) := fun A Z s E W N => by
  refine Call_method1 hbase hs hline (wpAny_mono (ev_global (u := .ref 51) (p := p1) rfl hk (by decide) A Z s E W N) (fun v s₁ q => ?_) fun _ _ x => x)
  obtain ⟨rfl, k1⟩ := q
  obtain ⟨d0, r3, r4, sl, h51⟩ := pat_obj P
  have X1 := (W.keeps (kext k1)).K _ _ h51
  refine ⟨"re.Pattern", "re.Pattern.search", plainAttrs_pat, slot_pat_search, type_pat_search, ⟨_, X1, rfl⟩, (fun a e => by cases e; exact ⟨_, X1, rfl⟩), ?_⟩
  refine PySem.Calls.callWith_builtin rfl (evalArgs_plain (spliced_cons (wpAny_mono (he A Z _ E (W.keeps (kext k1)) (N.keeps (kext k1))) (fun v s₂ q₂ => ?_) fun _ _ x => x)))
  obtain ⟨r2, k2⟩ := q₂
  obtain ⟨t, rfl⟩ := rep_str r2
  have k12 := keeps_trans k1 k2
  refine spliced_nil (call_search_some (W.keeps (kext k12)).K hz hj hc hd' fun h' a kk m => ?_)
  exact ⟨match_of m (N.keeps (kext k12)).alive, keeps_trans k12 (keeps_heap s₂ h' _ kk)⟩
theorem ev_search_none (hz : x.length < 100000) (hn : ∀ i, i < x.length → x.cps.getD i 0 ≠ 46)
    (hk : env.kindOf "IPV4_RE" = some .globalImplicit) (he : Ev prog w (hd.heap_39 P) base d env ρ e (IsW (.str x))) (hline : (apos.endLine == pos.line) = true)
    (hbase : attributeBase (.Name "IPV4_RE" p1) "search" env (eval (.Name "IPV4_RE" p1) env) = eval (.Name "IPV4_RE" p1) env := by rfl) (hs : starEach [e] env = [(false, eval e env)] := by rfl) :
    Ev prog w (hd.heap_39 P) base d env ρ (.Call (.Attribute (.Name "IPV4_RE" p1) "search" apos) [e] [] pos) (IsS .none) := fun A Z s E W N => by
  refine Call_method1 hbase hs hline (wpAny_mono (ev_global (u := .ref 51) (p := p1) rfl hk (by decide) A Z s E W N) (fun v s₁ q => ?_) fun _ _ x => x)
  obtain ⟨rfl, k1⟩ := q
  obtain ⟨d0, r3, r4, sl, h51⟩ := pat_obj P
  have X1 := (W.keeps (kext k1)).K _ _ h51
  refine ⟨"re.Pattern", "re.Pattern.search", plainAttrs_pat, slot_pat_search, type_pat_search, ⟨_, X1, rfl⟩, (fun a e => by cases e; exact ⟨_, X1, rfl⟩), ?_⟩
  refine PySem.Calls.callWith_builtin rfl (evalArgs_plain (spliced_cons (wpAny_mono (he A Z _ E (W.keeps (kext k1)) (N.keeps (kext k1))) (fun v s₂ q₂ => ?_) fun _ _ x => x)))
  obtain ⟨r2, k2⟩ := q₂
  obtain ⟨t, rfl⟩ := rep_str r2
  have k12 := keeps_trans k1 k2
  exact spliced_nil (call_search_none (W.keeps (kext k12)).K hz hn ⟨.none, k12⟩)
end
end Mine
end

section
open PySem PySem.W PyProof.Rows PySem.Calls
namespace Mine

/-! texts -/
/-- a label: figures, at least one, at most 40 -/
structure Lab (l : Str) : Prop where
  pos : 1 ≤ l.length
  le : l.length ≤ 40
  dig : ∀ c ∈ l.cps.toList, Sre.isDigit c = true
noncomputable def hj (ls : List Str) : Str := Txt.join "." ("h" :: ls)
theorem hj_cps (ls : List Str) : (hj ls).cps = ls.foldl (fun acc p => acc ++ ("." : Str).cps ++ p.cps) ("h" : Str).cps := rfl
theorem hj_nil : hj [] = "h" := rfl
theorem dot_cps : ("." : Str).cps = #[46] := by decide +kernel
theorem hj_snoc (ls : List Str) (l : Str) : (hj (ls ++ [l])).cps.toList = (hj ls).cps.toList ++ 46 :: l.cps.toList := by
  rw [hj_cps, hj_cps, List.foldl_append, List.foldl_cons, List.foldl_nil, dot_cps]
  simp
theorem hj_len_snoc (ls : List Str) (l : Str) : (hj (ls ++ [l])).length = (hj ls).length + 1 + l.length := by
  have := congrArg List.length (hj_snoc ls l)
  simp only [List.length_append, List.length_cons, Array.length_toList] at this
  show (hj (ls ++ [l])).cps.size = (hj ls).cps.size + 1 + l.cps.size
  omega
theorem hj_len : ∀ (n : Nat) (ls : List Str), ls.length = n → (∀ l ∈ ls, Lab l) → (hj ls).length ≤ 1 + 41 * n
  | 0, ls, h, _ => by
    rw [List.length_eq_zero_iff.mp h, hj_nil]; decide
  | n + 1, ls, h, hl => by
    have hne : ls ≠ [] := fun e => by rw [e] at h; cases h
    rw [← List.dropLast_concat_getLast hne, hj_len_snoc]
    have h1 := hj_len n ls.dropLast (by rw [List.length_dropLast]; omega) fun l hm => hl l ((List.dropLast_sublist ls).subset hm)
    have h2 := (hl _ (List.getLast_mem hne)).le
    omega

theorem failText_len : failText.length = 25 := by decide +kernel
theorem fail_nodot : ∀ i, i < failText.length → failText.cps.getD i 0 ≠ 46 := by decide +kernel
theorem h_nodot : ∀ i, i < ("h" : Str).length → ("h" : Str).cps.getD i 0 ≠ 46 := by decide +kernel

noncomputable def rungL (ls : List Str) (i : Nat) : Str := if i ≤ ls.length then hj (ls.take (ls.length - i)) else failText

/-- what the search finds in a name -/
theorem hj_match (ls : List Str) (l : Str) (hl : Lab l) : let x := hj (ls ++ [l]); let j := (hj ls).length
    j + 1 < x.length ∧ x.cps.getD j 0 = 46 ∧ (∀ i, j < i → i < x.length → Sre.isDigit (x.cps.getD i 0) = true) ∧ (⟨(x.cps.toList.take j).toArray⟩ : Str) = hj ls := by
  intro x j
  have hx : x.cps.toList = (hj ls).cps.toList ++ 46 :: l.cps.toList := hj_snoc ls l
  have hlen : x.length = j + 1 + l.length := hj_len_snoc ls l
  have hjl : (hj ls).cps.toList.length = j := by simp [j, Str.length]
  have get : ∀ i, x.cps.getD i 0 = ((hj ls).cps.toList ++ 46 :: l.cps.toList).getD i 0 := fun i => by
    rw [← hx]; simp [Array.getD_eq_getD_getElem?, List.getD_eq_getElem?_getD]
  refine ⟨by have := hl.pos; omega, ?_, fun i h1 h2 => ?_, ?_⟩
  · rw [get, List.getD_eq_getElem?_getD, List.getElem?_append_right (by omega), hjl]; simp
  · rw [get, List.getD_eq_getElem?_getD, List.getElem?_append_right (by omega), hjl]
    obtain ⟨k, rfl⟩ : ∃ k, i = j + 1 + k := ⟨i - (j + 1), by omega⟩
    rw [show j + 1 + k - j = k + 1 by omega, List.getElem?_cons_succ]
    have hk : k < l.cps.toList.length := by simp; show k < l.length; omega
    rw [List.getElem?_eq_getElem hk, Option.getD_some]
    exact hl.dig _ (List.getElem_mem hk)
  · rw [hx, List.take_append_of_le_length (by omega), List.take_of_length_le (by omega)]

theorem good_ob (P : ObP) : Good (fun Z _ h v => P.P Z h v) := ⟨fun q k => P.mono (fun _ _ _ q => q) (fun b o _ hc e => k.ex (fun m => nomatch m) hc e) q, fun q _ => q⟩

theorem safe_fn_none {prog : Program} {w : World} {base : Heap} {P : Params} : FnB prog w (hd.heap_39 P) base 6 39 [.fz .none, .fz (.str "host"), .ob (obV (.ref 46))] (.str failText) := fun d A Y s E vs hdd W hY hr => by
  obtain ⟨a, b, c, rfl, ⟨_, r1⟩, ⟨_, r2⟩, ⟨_, r3⟩⟩ := allB3 hr
  obtain rfl := rep_none r1
  obtain ⟨t, rfl⟩ := rep_str r2
  have r3' : c = .ref 46 := r3
  subst r3'
  exact wpAny_mono (safe_none W (by omega)) (fun v s' q => ⟨by obtain ⟨t, rfl⟩ := q.1; exact .str _ _, q.2⟩) fun _ _ x => x

theorem fnAt_rungs (P : Params) : FnAt (hd.heap_39 P) 140 (fdP P 140) (bodyOf (fdP P 140)) ["host"] :=
  ⟨⟨_, _, _, rfl⟩, rfl, rfl, rfl, by kernel_rfl, rfl, bind_of1 fun _ x => binds_host x ⟨rfl, rfl, rfl, rfl, rfl⟩ rfl, by decide +kernel, psB_k (by kernel_rfl), scopeB_n (by kernel_rfl), scopeB_f (by kernel_rfl), rfl, rfl, rfl⟩

section
variable {prog : Program} {w : World} {base : Heap} {d : Nat} {env : Env} {ρ : List (Str × Bnd)} {P : Params}
/-- the call that makes the next rung -/
theorem ev_next {x y : Str} {e : Expr} {p1 p2 p3 p4 apos cpos pos : Pos} {k : Nat} (hdd : d + 6 ≤ 500) (he : Ev prog w (hd.heap_39 P) base d env ρ e (IsW (.str x)))
    (hxy : (∃ j, x.length < 100000 ∧ j + 1 < x.length ∧ x.cps.getD j 0 = 46 ∧ (∀ i, j < i → i < x.length → Sre.isDigit (x.cps.getD i 0) = true) ∧ (⟨(x.cps.toList.take j).toArray⟩ : Str) = y) ∨ (x.length < 100000 ∧ (∀ i, i < x.length → x.cps.getD i 0 ≠ 46) ∧ y = failText))
    (k1 : env.kindOf "IPV4_RE" = some .globalImplicit) (k2 : env.kindOf "_safe_string" = some .globalImplicit) (k3 : env.kindOf "unmatched" = some .globalImplicit) (hline : (apos.endLine == cpos.line) = true)
    (hbase : attributeBase (.Name "IPV4_RE" p1) "search" env (eval (.Name "IPV4_RE" p1) env) = eval (.Name "IPV4_RE" p1) env := by rfl) (hs : starEach [e] env = [(false, eval e env)] := by rfl) :
    Ev prog w (hd.heap_39 P) base d env ρ (.Call (.Name "_safe_string" p2) [.Call (.Attribute (.Name "IPV4_RE" p1) "search" apos) [e] [] cpos, .Constant (.str "host") k p3, .Name "unmatched" p4] [] pos) (IsS (.str y)) := by
  have hst : starEach [.Call (.Attribute (.Name "IPV4_RE" p1) "search" apos) [e] [] cpos, .Constant (.str "host") k p3, .Name "unmatched" p4] env = [(false, eval (.Call (.Attribute (.Name "IPV4_RE" p1) "search" apos) [e] [] cpos) env), (false, eval (.Constant (.str "host") k p3) env), (false, eval (.Name "unmatched" p4) env)] := by rfl
  have unm : Ev prog w (hd.heap_39 P) base d env ρ (.Name "unmatched" p4) (fun _ _ _ v => v = .ref 46) := ev_global rfl k3 (by decide)
  have nm : Ev prog w (hd.heap_39 P) base d env ρ (.Name "_safe_string" p2) (fun _ _ _ v => v = .ref 39) := ev_global rfl k2 (by decide)
  rcases hxy with ⟨j, h1, h2, h3, h4, rfl⟩ | ⟨h1, h2, rfl⟩
  · refine FnB.ev (fn_safe_some (x := x) (j := j) (by omega) (by omega)) (by omega) (fnAt_safe P) nm ?_ ⟨_, _, by rw [hst]; rfl⟩
    intro A Z s E W N
    refine wpAny_mono (evs_three (ev_search_some h1 h2 h3 h4 k1 he hline hbase hs) ev_str unm (good_ob (obM x j x.length)) (good_S _) ⟨fun q _ => q, fun q _ => q⟩ hst A Z s E W N) (fun vs s₁ q => ?_) fun _ _ x => x
    obtain ⟨⟨v, v', v'', rfl, q1, q2, q3⟩, kk⟩ := q
    exact ⟨⟨⟨rfl, q1⟩, ⟨rfl, q2⟩, ⟨rfl, q3⟩, trivial⟩, kk⟩
  · refine FnB.ev safe_fn_none (by omega) (fnAt_safe P) nm ?_ ⟨_, _, by rw [hst]; rfl⟩
    intro A Z s E W N
    refine wpAny_mono (evs_three (ev_search_none h1 h2 k1 he hline hbase hs) ev_str unm (good_S _) (good_S _) ⟨fun q _ => q, fun q _ => q⟩ hst A Z s E W N) (fun vs s₁ q => ?_) fun _ _ x => x
    obtain ⟨⟨v, v', v'', rfl, q1, q2, q3⟩, kk⟩ := q
    exact ⟨⟨⟨rfl, q1⟩, ⟨rfl, q2⟩, ⟨rfl, q3⟩, trivial⟩, kk⟩
end

theorem rung_step (ls : List Str) (hl : ∀ l ∈ ls, Lab l) (h3 : ls.length ≤ 3) (i : Nat) :
    (∃ j, (rungL ls i).length < 100000 ∧ j + 1 < (rungL ls i).length ∧ (rungL ls i).cps.getD j 0 = 46 ∧ (∀ k, j < k → k < (rungL ls i).length → Sre.isDigit ((rungL ls i).cps.getD k 0) = true) ∧ (⟨((rungL ls i).cps.toList.take j).toArray⟩ : Str) = rungL ls (i + 1)) ∨
      ((rungL ls i).length < 100000 ∧ (∀ k, k < (rungL ls i).length → (rungL ls i).cps.getD k 0 ≠ 46) ∧ rungL ls (i + 1) = failText) := by
  by_cases h : i < ls.length
  · left
    have e1 : rungL ls i = hj (ls.take (ls.length - i)) := by unfold rungL; rw [if_pos (by omega)]
    have e2 : rungL ls (i + 1) = hj (ls.take (ls.length - (i + 1))) := by unfold rungL; rw [if_pos (by omega)]
    have hk : ls.length - (i + 1) < ls.length := by omega
    have e3 : ls.take (ls.length - i) = ls.take (ls.length - (i + 1)) ++ [ls[ls.length - (i + 1)]] := by
      rw [show ls.length - i = ls.length - (i + 1) + 1 by omega, List.take_add_one, List.getElem?_eq_getElem hk]; rfl
    have hm := hj_match (ls.take (ls.length - (i + 1))) ls[ls.length - (i + 1)] (hl _ (List.getElem_mem hk))
    rw [← e3, ← e1, ← e2] at hm
    have hlen := hj_len (ls.length - i) (ls.take (ls.length - i)) (by rw [List.length_take]; omega) fun l hm => hl l (List.mem_of_mem_take hm)
    rw [← e1] at hlen
    exact ⟨_, by omega, hm⟩
  · right
    have e2 : rungL ls (i + 1) = failText := by unfold rungL; rw [if_neg (by omega)]
    by_cases hi : i ≤ ls.length
    · have e1 : rungL ls i = "h" := by
        unfold rungL; rw [if_pos hi, show ls.length - i = 0 by omega, List.take_zero]; rfl
      rw [e1]
      exact ⟨by decide, h_nodot, e2⟩
    · have e1 : rungL ls i = failText := by unfold rungL; rw [if_neg hi]
      rw [e1]
      exact ⟨by decide +kernel, fail_nodot, e2⟩

theorem fn_rungs {prog : Program} {w : World} {base : Heap} {P : Params} {ls : List Str} (hl : ∀ l ∈ ls, Lab l) (h3 : ls.length ≤ 3) :
    Fn prog w (hd.heap_39 P) base 8 140 [.str (hj ls)] (.list ((List.range 5).map fun i => .str (rungL ls i))) := by
  refine fn_intro (fnAt_rungs P) rfl (by decide) fun d L hdd => ?_
  generalize hE : callEnvC (fdP P 140) L 140 = env
  have k1 : env.kindOf "rungs" = some .local := by rw [← hE]; rfl
  have k2 : env.kindOf "turn" = some .local := by rw [← hE]; rfl
  have k3 : env.kindOf "range" = some .globalImplicit := by rw [← hE]; rfl
  have k4 : env.kindOf "_safe_string" = some .globalImplicit := by rw [← hE]; rfl
  have k5 : env.kindOf "IPV4_RE" = some .globalImplicit := by rw [← hE]; rfl
  have k6 : env.kindOf "unmatched" = some .globalImplicit := by rw [← hE]; rfl
  have hi : interactive env = false := by rw [← hE]; rfl
  refine ex_cons (ex_new (x := "rungs") (.inl k1) (ev_list (ds := [.str (hj ls)]) (evs_cons (ev_fz rfl) evs_nilS) (by show 1 ≤ 1000; decide)) (fun dd hdd => by rw [List.mem_singleton.mp hdd]; trivial)) ?_
  refine ex_cons (ex_for (ds := (List.range 4).map fun i : Nat => PyData.int i) (it_range (n := 4) ev_int.s_w (by decide) (by decide) rfl k3) (fun dd => [("turn", dd)]) (fun i => [("rungs", .own ((List.range (i + 1)).map fun i => .str (rungL ls i)))])
    (fun dd _ => asg_name (.inl k2)) (fun dd _ x hx => by rw [List.mem_singleton.mp hx]; exact .inl k2) ?_ fun i dd hdi => ?_) ?_
  · intro x b e
    have : (List.range (0 + 1)).map (fun i => PyData.str (rungL ls i)) = [.str (hj ls)] := by
      show [PyData.str (rungL ls 0)] = _
      unfold rungL; rw [if_pos (Nat.zero_le _), Nat.sub_zero, List.take_length]
    rw [this, List.lookup_cons] at e
    rw [List.lookup_cons]
    cases q : x == ("rungs" : Str) with
    | true => rw [q] at e; exact e
    | false => rw [q] at e; simp at e
  · have hi4 : i < 4 := by
      have := (List.getElem?_eq_some_iff.mp hdi).1
      simpa using this
    refine (ex_cons (ex_append (x := "rungs") (ds := (List.range (i + 1)).map fun i => .str (rungL ls i)) (dd := .str (rungL ls (i + 1))) rfl ?_ (by simp; omega) hi rfl rfl rfl) ex_nil).weak ?_
    · refine ev_next (x := rungL ls i) (by omega) (ev_last (ds := (List.range (i + 1)).map fun i => .str (rungL ls i)) (ev_own rfl) (ev_neg ev_int.s_w).s_w ?_ (by simp; omega)).s_w (rung_step ls hl h3 i) k5 k4 k6 rfl
      simp
    · intro x b e
      rw [List.lookup_cons] at e
      rw [List.lookup_cons]
      cases q : x == ("rungs" : Str) with
      | true => rw [q] at e; rw [← e, List.range_succ (n := i + 1), List.map_append]; rfl
      | false => rw [q] at e; simp at e
  · refine ex_freeze (x := "rungs") rfl (ex_stop (ex_return ?_))
    exact ev_fz rfl
end Mine
end

section
open PySem PySem.W PyProof.Rows PySem.Calls
namespace Mine

theorem look_match_bool : typeLookup (.type "re.Match") "__bool__" = pure none := by rw [typeLookup_type, builtinLookup_eq_fast]; kernel_rfl
theorem look_match_len : typeLookup (.type "re.Match") "__len__" = pure none := by rw [typeLookup_type, builtinLookup_eq_fast]; kernel_rfl

section
variable {prog : Program} {w : World} {K : Frag} {base : Heap} {d n : Nat} {env : Env} {ρ : List (Str × Bnd)} {pos p p' apos : Pos} {m : Str} {x : Str} {e : Expr}
theorem truthy_match {A : Around} {E : Value → Shared → Prop} {s : Shared} {Z : List Addr} {b j : Nat} {v : Value} {Q : Bool → Shared → Prop} (hm : MatchP x b j Z s.heap v) (h : Q true s) : wpAny (model prog w) A (truthy v) Q E s := by
  obtain ⟨a, T, u, pat, i1, i2, i3, rfl, ha, hT, ho, hoT⟩ := hm
  have hT' : s.TypeIs (.ref a) "re.Match" := ⟨_, ho, rfl⟩
  unfold truthy
  dsimp only
  refine wpAny_bind ?_
  unfold callSpecial?
  refine wpAny_bind (wpAny_specialOf hT' look_match_bool ?_)
  refine wpAny_pure ?_
  dsimp only
  refine wpAny_bind (wpAny_specialOf hT' look_match_len ?_)
  exact wpAny_pure h
theorem tst_match {b j : Nat} (h : Ev prog w K base d env ρ e (fun Z _ h v => MatchP x b j Z h v)) (hp : isTrue e env (eval e env) = (do let v ← eval e env; standAt e.pos; holding [v] (truthy v)) := by rfl) : Tst prog w K base d env ρ e true := fun A Z s E W N => by
  rw [hp]
  refine wpAny_bind (wpAny_mono (h A Z s E W N) (fun v s₁ q => ?_) fun _ _ x => x)
  exact wpAny_bind (wpAny_standAt (wpAny_holding (truthy_match q.1 ⟨rfl, q.2⟩)))
theorem tst_none (h : Ev prog w K base d env ρ e (IsW .none)) (hp : isTrue e env (eval e env) = (do let v ← eval e env; standAt e.pos; holding [v] (truthy v)) := by rfl) : Tst prog w K base d env ρ e false := fun A Z s E W N => by
  rw [hp]
  refine wpAny_bind (wpAny_mono (h A Z s E W N) (fun v s₁ q => ?_) fun _ _ x => x)
  rw [rep_none q.1]
  exact wpAny_bind (wpAny_standAt (wpAny_holding (wpAny_pure ⟨rfl, q.2⟩)))
end

theorem fnAt_lib (P : Params) : FnAt (hd.heap_39 P) 58 (fdP P 58) (bodyOf (fdP P 58)) ["text"] :=
  ⟨⟨_, _, _, rfl⟩, rfl, rfl, rfl, by kernel_rfl, rfl, bind_of1 fun _ x => binds_text x ⟨rfl, rfl, rfl, rfl, rfl⟩ rfl, by decide +kernel, psB_k (by kernel_rfl), scopeB_n (by kernel_rfl), scopeB_f (by kernel_rfl), rfl, rfl, rfl⟩

theorem fn_lib {prog : Program} {w : World} {base : Heap} {P : Params} {x : Str} {b : Bool}
    (h : (b = false ∧ ∃ j, x.length < 100000 ∧ j + 1 < x.length ∧ x.cps.getD j 0 = 46 ∧ (∀ i, j < i → i < x.length → Sre.isDigit (x.cps.getD i 0) = true)) ∨ (b = true ∧ x.length < 100000 ∧ (∀ i, i < x.length → x.cps.getD i 0 ≠ 46))) :
    Fn prog w (hd.heap_39 P) base 2 58 [.str x] (.bool b) := by
  refine fn_intro (fnAt_lib P) rfl (by decide) fun d L hdd => ?_
  generalize hE : callEnvC (fdP P 58) L 58 = env
  have k5 : env.kindOf "IPV4_RE" = some .globalImplicit := by rw [← hE]; rfl
  rcases h with ⟨rfl, j, h1, h2, h3, h4⟩ | ⟨rfl, h1, h2⟩
  · refine ex_stop (ex_if (b := true) (tst_match (ev_search_some h1 h2 h3 h4 k5 (ev_fz rfl).s_w rfl)) (fun _ => ex_stop (ex_return ev_bool)) (fun m => nomatch m))
  · refine ex_cons (ex_if (b := false) (o := .next _) (tst_none (ev_search_none h1 h2 k5 (ev_fz rfl).s_w rfl).s_w) (fun m => nomatch m) (fun _ => ex_nil)) (ex_stop (ex_return ev_bool))

/-- what liberal_is_HDN says of a rung -/
theorem fn_lib_rung {prog : Program} {w : World} {base : Heap} {P : Params} (ls : List Str) (hl : ∀ l ∈ ls, Lab l) (h3 : ls.length ≤ 3) (i : Nat) :
    Fn prog w (hd.heap_39 P) base 2 58 [.str (rungL ls i)] (.bool (decide (ls.length ≤ i))) := by
  refine fn_lib ?_
  rcases rung_step ls hl h3 i with ⟨j, h1, h2, h4, h5, h6⟩ | ⟨h1, h2, h6⟩
  · by_cases h : i < ls.length
    · exact .inl ⟨decide_eq_false (by omega), j, h1, h2, h4, h5⟩
    · exfalso
      by_cases hi : i ≤ ls.length
      · have e1 : rungL ls i = "h" := by
          unfold rungL; rw [if_pos hi, show ls.length - i = 0 by omega, List.take_zero]; rfl
        rw [e1] at h2 h4
        exact h_nodot j (by omega) h4
      · have e1 : rungL ls i = failText := by unfold rungL; rw [if_neg hi]
        rw [e1] at h2 h4
        exact fail_nodot j (by omega) h4
  · refine .inr ⟨decide_eq_true ?_, h1, h2⟩
    refine Nat.le_of_not_lt fun h => ?_
    have e1 : rungL ls i = hj (ls.take (ls.length - i)) := by unfold rungL; rw [if_pos (by omega)]
    have hk : ls.length - (i + 1) < ls.length := by omega
    have e3 : ls.take (ls.length - i) = ls.take (ls.length - (i + 1)) ++ [ls[ls.length - (i + 1)]] := by
      rw [show ls.length - i = ls.length - (i + 1) + 1 by omega, List.take_add_one, List.getElem?_eq_getElem hk]; rfl
    have hm := hj_match (ls.take (ls.length - (i + 1))) ls[ls.length - (i + 1)] (hl _ (List.getElem_mem hk))
    rw [← e3, ← e1] at hm
    exact h2 _ (by have := hm.1; omega) hm.2.1
end Mine
end

section
open PySem PySem.W PyProof.Rows PySem.Calls
namespace Mine

section
variable {prog : Program} {w : World} {K : Frag} {base : Heap} {d : Nat} {env : Env} {ρ : List (Str × Bnd)} {pos : Pos}
/-- for x, y in enumerate(l) -/
theorem ex_for_enum {x y : Str} {p1 p2 p3 pt : Pos} {kt : Nat} {l : Expr} {body : List Stmt} {ds : List PyData} (he : Ev prog w K base d env ρ l (IsS (.list ds)))
    (hg : nsIn K mainGlobals "enumerate" = some none) (hk : env.kindOf "enumerate" = some .globalImplicit) (hx : Storable env x) (hy : Storable env y) (hne : x ≠ y) (σ : Nat → List (Str × Bnd))
    (h0 : ∀ z b, (σ 0).lookup z = some b → ρ.lookup z = some b) (hbody : ∀ (i : Nat) dd, ds[i]? = some dd → Ex prog w K base d env (fzs [(x, .int (i : Int)), (y, dd)] ++ σ i) body (.next (σ (i + 1))))
    {cp : Pos} (hs1 : starEach [l] env = [(false, eval l env)] := by rfl)
    (hs : ∀ z, foldedSetIterable (.Call (.Name "enumerate" p3) [l] [] cp) env z = pure z := by intro _; rfl) : Ex1 prog w K base d env ρ (.For (.Tuple [.Name x p1, .Name y p2] kt pt) (.Call (.Name "enumerate" p3) [l] [] cp) body [] pos) (.next (σ ds.length)) := fun A Y M h₀ s E W B S => by
  have hslot : ∀ z ∈ [x, y], Storable env z := fun z hz => by
    rcases List.mem_cons.mp hz with rfl | hz
    · exact hx
    · rw [List.mem_singleton.mp hz]; exact hy
  refine wpAny_For (hs := hs) ?_
  refine Call_Name1 (hs := hs1) (wpAny_mono (ev_builtin (p := p3) hg (by decide +kernel : bootBuiltins "enumerate" = some (.type "enumerate")) hk (by decide) (by decide) A _ s _ W S.nm) (fun f s₁ q => ?_) fun _ _ x => x)
  obtain ⟨rfl, k1⟩ := q
  refine PySem.callWith_type1 (wpAny_mono (he A _ s₁ _ (W.keeps (kext k1)) (S.nm.keeps (kext k1))) (fun v s₂ q₂ => ?_) fun _ _ x => x)
  obtain ⟨r2, k2⟩ := q₂
  have k12 := keeps_trans k1 k2
  cases r2 with
  | @list a vs _ haZ hl hr =>
  refine call_enumerate_list hl.isList fun hE hen hit hsz hkE => ?_
  refine wpAny_pyIter_enum (s := { s₂ with heap := hE }) hen ?_
  have k3 : Keep base s { s₂ with heap := hE } := keeps_trans k12 (keeps_heap s₂ hE s₂.toks hkE)
  generalize hZ : s₂.heap.objs.size = n at hen hit hsz
  have halt : a < n := by obtain ⟨o, ho, _⟩ := hl.isList; rw [← hZ]; exact Heap.lt_size ho
  have WT := WalksT.enumerate (prog := prog) (w := w) W.handled (n + 1) n a (Nat.succ_ne_self n) (Nat.ne_of_lt (Nat.lt_succ_of_lt halt)) (Nat.ne_of_lt halt) vs.toArray
  have nn : ∀ b ∈ [n + 1, n], s₂.heap.get? b = none := fun b hb => by
    have : s₂.heap.objs.size ≤ b := by
      rw [hZ]
      rcases List.mem_cons.mp hb with rfl | hb
      · exact Nat.le_succ n
      · rw [List.mem_singleton.mp hb]; exact Nat.le_refl _
    cases e : s₂.heap.get? b with
    | none => rfl
    | some o => exact absurd this (Nat.not_le.mpr (Heap.lt_size e))
  have hlen : vs.length = ds.length := hr.length
  have hlv : vs.toArray.size = ds.length := by simp [hlen]
  generalize hwr' : [n + 1, n] = wr at nn WT
  generalize hfp' : [n + 1, n, a] = fp at WT
  obtain ⟨h₂, t₂, e₂, k2'⟩ := k3
  have e₂' : hE = h₂ := congrArg Shared.heap e₂
  rw [e₂]
  subst e₂'
  have st0 : (∃ old, IsEnum hE (n + 1) n ((0 : Nat) : Int) old) ∧ hE.IsListIter n a 0 ∧ hE.IsList a vs.toArray := ⟨⟨_, hen⟩, hit, hl.isList.at fun o q => hkE _ _ q⟩
  let stI : Nat → Heap → Prop := fun i h => (∃ old, IsEnum h (n + 1) n (i : Int) old) ∧ h.IsListIter n a i ∧ h.IsList a vs.toArray
  have hwr : ∀ b ∈ wr, s.heap.get? b = none := fun b hb => none_of_ext (kext k12) (nn b hb)
  have wrAl : ∀ i h, stI i h → ∀ b ∈ wr, ∃ o, h.get? b = some o := fun i h q b hb => by
    obtain ⟨⟨old, q1⟩, ⟨o, q2, _⟩, _⟩ := q
    rw [← hwr'] at hb
    rcases List.mem_cons.mp hb with rfl | hb
    · exact ⟨_, q1⟩
    · rw [List.mem_singleton.mp hb]; exact ⟨_, q2⟩
  have hI3 : ∀ i h, stI i h → ∀ b ∈ fp, ∀ o, h.get? b = some o → ¬ IsFr o := fun i h q b hb o ho qf => by
    obtain ⟨⟨old, q1⟩, ⟨o2, q2, q2c, _⟩, ⟨o3, q3, q3c, _⟩⟩ := q
    rw [← hfp'] at hb
    rcases List.mem_cons.mp hb with rfl | hb
    · rw [show h.get? (n + 1) = some _ from q1] at ho; cases ho; exact absurd (show Value.type "enumerate" = Value.type "frame" from qf) (by decide)
    · rcases List.mem_cons.mp hb with rfl | hb
      · rw [q2] at ho; cases ho; exact absurd (q2c.symm.trans qf) (by decide)
      · rw [List.mem_singleton.mp hb, q3] at ho; cases ho; exact absurd (q3c.symm.trans qf) (by decide)
  have al : ∀ b ∈ Y ++ M, ∃ o, s₂.heap.get? b = some o := fun b hb => (S.nm.keeps (kext k12)).alive b hb
  have hfp : ∀ b ∈ fp, ∃ o, hE.get? b = some o := fun b hb => by
    rw [← hfp'] at hb
    rcases List.mem_cons.mp hb with rfl | hb
    · exact ⟨_, hen⟩
    · rcases List.mem_cons.mp hb with rfl | hb
      · obtain ⟨o, e, _⟩ := hit; exact ⟨o, e⟩
      · obtain ⟨o, e, _⟩ := hl.isList; rw [List.mem_singleton.mp hb]; exact ⟨o, hkE _ _ e⟩
  have hfz' : ∀ b ∈ fp, b ∉ Y ++ M := fun b hb m => by
    obtain ⟨o, e⟩ := al b m
    rw [← hfp'] at hb
    rcases List.mem_cons.mp hb with rfl | hb
    · rw [nn (n + 1) (by rw [← hwr']; exact .head _)] at e; cases e
    · rcases List.mem_cons.mp hb with rfl | hb
      · rw [nn b (by rw [← hwr']; exact .tail _ (.head _))] at e; cases e
      · rw [List.mem_singleton.mp hb] at m; exact haZ m
  have wr0 : ∀ b ∈ wr, h₀.get? b = none := fun b hb => none_of_ext S.keep (hwr b hb)
  have S0 : St base (wr ++ Y) M env (σ 0) h₀ hE := by
    have := S.grow (Y' := wr) (M' := []) k2' (fun b hb => ⟨hwr b hb, wrAl 0 _ st0 b hb⟩) (fun _ m => nomatch m) (fun _ _ m => nomatch m)
    exact this.weaken h0
  have hr2 : RepAll (wr ++ (Y ++ M)) hE vs ds := hr.mono (fun b o e hb m => by
    rcases List.mem_append.mp m with m | m
    · rw [nn b m] at e; cases e
    · exact hb m) fun b o _ _ e => hkE _ _ e
  refine codeAny_forLoop_any (fun k s' => ∃ i h tk M', s' = { s with heap := h, toks := tk } ∧ i ≤ ds.length ∧ k = ds.length + 1 - i ∧ stI i h ∧ St base (wr ++ Y) M' env (σ i) h₀ h ∧ (∀ a ∈ M', a ∈ M ∨ hE.get? a = none) ∧
      Hout base (wr ++ M) hE h ∧ FrOk s.heap h) ?_ (ds.length + 1)
    ⟨0, hE, t₂, M, rfl, Nat.zero_le _, rfl, st0, S0, fun _ h => .inl h, .refl, frOk_ext k2'⟩
  rintro k s' ⟨i, h, tk, M', rfl, hi, rfl, st, S1, hM, kp, fr⟩
  by_cases hlt : i < ds.length
  · refine WT.item i _ _ _ (by rw [hlv]; exact hlt) st fun T vals h1 tk1 hPv hT hTup hMid k1' => ?_
    obtain ⟨t, v, hv, rfl⟩ := hPv
    refine WT.go _ _ _ i T _ _ _ hMid fun h2 st1 k2'' => ?_
    have k1 : ∀ b o, b ∉ wr → h.get? b = some o → h2.get? b = some o := fun b o hb e => k2'' b o hb (k1' b o hb e)
    have hTw := WT.apart i T _ hMid
    obtain ⟨dd, hd, hrep⟩ := hr2.get' (k := i) (v := v) (by simpa using hv)
    have hdm : dd ∈ ds := List.mem_of_getElem? hd
    have S2 : St base (wr ++ Y) M' env (σ i) h₀ h2 := S1.turned (C := wr) k1 (fun a ha => ⟨List.mem_append_left _ ha, wr0 a ha⟩) fun a ha => ⟨ha, by
      by_cases m : a ∈ wr
      · exact .inr (wrAl _ _ st1 a m)
      · exact .inl m⟩
    have fr1 : FrOk s.heap h2 := fun b o e q => by
      obtain ⟨o', e', q'⟩ := fr b o e q
      exact ⟨o', k1 b o' (fun m => by rw [hwr b m] at e; cases e) e', q'⟩
    have kp1 : Hout base (wr ++ M) hE h2 := kp.trans (Hout.of (M := wr) k1) fun x hx => .inl (List.mem_append_left _ hx)
    have W2 : Wd K base d A h2 := W.step (S2.keep.stays (fun _ m => nomatch m) B) fr1
    have rep2 : Rep ((wr ++ Y) ++ M') h2 v dd := hrep.mono (fun b o e hb m => by
      rcases List.mem_append.mp m with m | m
      · rcases List.mem_append.mp m with m | m
        · exact hb (List.mem_append_left _ m)
        · exact hb (List.mem_append_right _ (List.mem_append_left _ m))
      · rcases hM b m with q | q
        · exact hb (List.mem_append_right _ (List.mem_append_right _ q))
        · rw [q] at e; cases e) fun b o hb hc e => kp1.ex (fun m => (List.mem_append.mp m).elim (fun m => hb (List.mem_append_left _ m)) fun m => hb (List.mem_append_right _ (List.mem_append_right _ m))) hc e
    have repT : Rep ((wr ++ Y) ++ M') h2 (.ref T) (.tuple [.int (i : Int), dd]) := by
      refine .tuple (vs := [.int i t, v]) (fun m => ?_) ?_ (.cons (.int _ _) (.cons rep2 .nil))
      · rcases List.mem_append.mp m with m | m
        · rcases List.mem_append.mp m with m | m
          · exact hTw m
          · obtain ⟨o, e⟩ := S1.alive T (List.mem_append_left _ (List.mem_append_right _ m))
            exact absurd hT (Nat.not_le.mpr (Heap.lt_size e))
        · obtain ⟨o, e⟩ := S1.alive T (List.mem_append_right _ m)
          exact absurd hT (Nat.not_le.mpr (Heap.lt_size e))
      · obtain ⟨o, ho, hc, hd⟩ := hTup
        exact ⟨o, k2'' _ _ hTw ho, hc, hd⟩
    refine asg_pair hx hy hne A ((wr ++ Y) ++ M') _ _ (.ref T) _ W2.handled S2.fw (fun a ha => List.mem_append_right _ (S2.frameM a ha)) repT fun h3 tk3 T3 hb3 => ?_
    have S3 := S2.binds T3 hslot hb3
    have slM : ∀ a ∈ ([(x, PyData.int (i : Int)), (y, dd)].map (·.1)).map (slotOf env), a ∈ M' := fun a ha => by
      obtain ⟨z, hz, rfl⟩ := List.mem_map.mp ha
      exact S2.frameM _ (slot_mem (hslot z hz))
    refine wpAny_mono (hbody i dd hd A (wr ++ Y) M' h₀ { s with heap := h3, toks := tk3 } _ (W2.step (S3.keep.stays (fun _ m => nomatch m) B) T3.frames) B S3) (fun f s₃ q => ?_) fun _ _ x => x
    obtain ⟨h4, tk4, rfl, ⟨rfl, M3, S4, hM3⟩, C⟩ := q
    have out12 : Hout base M' h2 h4 := (Hout.of (M := M') fun b o hb e => T3.out b o (fun m => hb (slM b m)) e).trans C.out fun _ h => .inl h
    have hM3' : ∀ a ∈ M3, a ∈ M ∨ hE.get? a = none := fun a ha => by
      rcases hM3 a ha with q | q
      · exact hM a q
      · by_cases m : a ∈ M
        · exact .inl m
        · cases e : hE.get? a with
          | none => exact .inr rfl
          | some o =>
            by_cases mw : a ∈ wr
            · obtain ⟨o', e'⟩ := S3.alive a (List.mem_append_left _ (List.mem_append_left _ mw))
              rw [q] at e'; cases e'
            · obtain ⟨o1, e1⟩ := kp1.al (fun m' => (List.mem_append.mp m').elim mw m) ⟨o, e⟩
              by_cases ms : a ∈ M'
              · obtain ⟨o', e'⟩ := S3.alive a (List.mem_append_right _ ms)
                rw [q] at e'; cases e'
              · have := T3.out a o1 (fun m' => ms (slM a m')) e1
                rw [q] at this; cases this
    refine ⟨ds.length + 1 - (i + 1), by omega, i + 1, h4, tk4, M3, rfl, hlt, rfl, ?_, S4, hM3', kp1.trans out12 (fun x hx => (hM x hx).imp (List.mem_append_right _) id), fr1.trans (FrOk.trans T3.frames C.fr)⟩
    · refine WT.frame _ _ _ st1 fun b hb o e => out12.ex (fun m => ?_) (hI3 _ _ st1 b hb o e) e
      obtain ⟨o', e'⟩ := hfp b hb
      rcases hM b m with q | q
      · exact hfz' b hb (List.mem_append_right _ q)
      · rw [q] at e'; cases e'
  · have hin : i = ds.length := by omega
    subst hin
    refine WT.done _ _ _ (by rw [hlv]; exact st) fun h1 tk1 k1 => wpAny_execs_nil ?_
    have S2 : St base Y M' env (σ ds.length) h₀ h1 := S1.turned (C := wr) k1 (fun a ha => ⟨List.mem_append_left _ ha, wr0 a ha⟩) fun a ha => ⟨List.mem_append_right _ ha, .inl fun m => by
      obtain ⟨o, e⟩ := S.alive a (List.mem_append_left _ ha)
      rw [hwr a m] at e; cases e⟩
    refine ⟨h1, tk1, rfl, ⟨rfl, M', S2, fun a ha => (hM a ha).imp id (none_of_ext k2')⟩, ⟨?_, fun b o e q => ?_⟩⟩
    · have a1 : Hout base (wr ++ M) hE h1 := kp.trans (Hout.of (M := wr) k1) fun x hx => .inl (List.mem_append_left _ hx)
      exact (k2'.less fun _ m => nomatch m).trans a1 fun x hx => (List.mem_append.mp hx).elim (fun m => .inr (hwr x m)) .inl
    · obtain ⟨o', e', q'⟩ := fr b o e q
      exact ⟨o', k1 b o' (fun m => by rw [hwr b m] at e; cases e) e', q'⟩
end
end Mine
end

section
open PySem PySem.W PyProof.Rows PySem.Calls
namespace Mine

/-! the hosts -/
noncomputable def iOf : PyData → Int | .int i => i | _ => 0
noncomputable def sOf : PyData → Str | .str x => x | _ => ⟨#[]⟩
noncomputable def lOf : PyData → List PyData | .list l => l | .tuple l => l | _ => []
noncomputable def at0 (d : PyData) : PyData := (lOf d).getD 0 .none
noncomputable def at1 (d : PyData) : PyData := (lOf d).getD 1 .none

noncomputable def seedsAt (xs : List Int) : Nat → List Int
  | 0 => [1408, 385, 2, 19, 1029, 6]
  | i + 1 => (seedsAt xs i).set (i % 6) ((seedsAt xs i).getD (i % 6) 0 + xs.getD i 0)
theorem seedsAt_len (xs : List Int) : ∀ i, (seedsAt xs i).length = 6
  | 0 => rfl
  | i + 1 => by rw [seedsAt, List.length_set, seedsAt_len]
noncomputable def figOf (xs : List Int) : Int := 1 + (xs.map fun x => (x.natAbs : Int)).sum % 10 ^ 30
noncomputable def figS (xs : List Int) : Str := toString (figOf xs)
noncomputable def labAt (f : Str) (m : Int) (k : Nat) : Str := if m / 2 ^ (k + 2) % 2 = 0 then "0" else f
noncomputable def labsOf (f : Str) (m : Int) : List Str := (List.range (m % 4).toNat).map fun k => labAt f m k
noncomputable abbrev Host := List Str × Int
noncomputable def hostD (h : Host) : PyData := .tuple [.list (h.1.map PyData.str), .int h.2]
noncomputable def hostsStep (f : Str) (hs : List Host) (seed : Int) : List Host :=
  if labsOf f (seed % 1000000) ∈ hs.map Prod.fst then hs else hs ++ [(labsOf f (seed % 1000000), seed % 1000000 / 32)]
noncomputable def hostsF (f : Str) (seeds : List Int) : List Host := seeds.foldl (hostsStep f) []
noncomputable def hostsOf (ns : List Int) : List Host := hostsF (figS (ns.take 18)) (seedsAt (ns.take 18) (ns.take 18).length)

theorem eqv_strs : ∀ a b : List Str, PyData.eqvAll (a.map PyData.str) (b.map PyData.str) = decide (a = b)
  | [], [] => by simp [PyData.eqvAll]
  | [], y :: ys => by simp [PyData.eqvAll]
  | x :: xs, [] => by simp [PyData.eqvAll]
  | x :: xs, y :: ys => by
    rw [List.map_cons, List.map_cons, PyData.eqvAll, eqv_strs xs ys, PyData.eqv, Bool.eq_iff_iff]
    simp
theorem eqv_strl (a b : List Str) : PyData.eqv (.list (a.map PyData.str)) (.list (b.map PyData.str)) = decide (a = b) := by
  rw [PyData.eqv, eqv_strs]
theorem any_labels (hs : List Host) (ls : List Str) : (((hs.map hostD).map at0).any fun y => PyData.eqv y (.list (ls.map PyData.str))) = decide (ls ∈ hs.map Prod.fst) := by
  rw [Bool.eq_iff_iff, List.any_eq_true, decide_eq_true_iff, List.mem_map]
  constructor
  · rintro ⟨y, hy, e⟩
    rw [List.map_map, List.mem_map] at hy
    obtain ⟨h, hh, rfl⟩ := hy
    refine ⟨h, hh, ?_⟩
    have : PyData.eqv (.list (h.1.map PyData.str)) (.list (ls.map PyData.str)) = true := e
    rw [eqv_strl] at this
    exact of_decide_eq_true this
  · rintro ⟨h, hh, rfl⟩
    refine ⟨at0 (hostD h), List.mem_map.mpr ⟨_, List.mem_map.mpr ⟨h, hh, rfl⟩, rfl⟩, ?_⟩
    show PyData.eqv (.list (h.1.map PyData.str)) (.list (h.1.map PyData.str)) = true
    rw [eqv_strl]; simp
theorem hostsStep_len (f : Str) (hs : List Host) (s : Int) : (hostsStep f hs s).length ≤ hs.length + 1 := by
  unfold hostsStep; split
  · omega
  · simp
theorem hostsF_len (f : Str) (seeds : List Int) : (hostsF f seeds).length ≤ seeds.length := by
  have : ∀ (seeds : List Int) (hs : List Host), (seeds.foldl (hostsStep f) hs).length ≤ hs.length + seeds.length := by
    intro seeds
    induction seeds with
    | nil => intro hs; simp
    | cons s r ih =>
      intro hs
      rw [List.foldl_cons, List.length_cons]
      have := ih (hostsStep f hs s)
      have := hostsStep_len f hs s
      omega
  have := this seeds []
  rw [List.length_nil, Nat.zero_add] at this
  exact this
theorem hostsF_take (f : Str) (seeds : List Int) (i : Nat) (s : Int) (h : seeds[i]? = some s) : hostsF f (seeds.take (i + 1)) = hostsStep f (hostsF f (seeds.take i)) s := by
  unfold hostsF
  rw [List.take_add_one, h, List.foldl_append]; rfl

section
variable {prog : Program} {w : World} {K : Frag} {base : Heap} {dd : Nat} {env : Env} {ρ : List (Str × Bnd)} {scope : Scope}
/-- a comprehension of one clause, no test -/
theorem cu_each {elt target iter : Expr} {pos : Pos} {ds : List PyData} {fz : Bool} (hit : EvIt prog w K base dd env ρ iter ds fz) (S : ScopeOk scope env)
    (binds : PyData → List (Str × PyData)) (f : PyData → PyData)
    (hasg : ∀ C, ∀ d ∈ ds, AsgOk prog w (cEnv scope C env) target d (binds d)) (hslot : ∀ d ∈ ds, ∀ x ∈ (binds d).map (·.1), scope.names.lookup x = some .local ∨ scope.names.lookup x = some .cell)
    (helt : ∀ C, ∀ d ∈ ds, Ev prog w K base dd (cEnv scope C env) (fzs (binds d) ++ capt scope ρ) elt (IsS (f d)))
    (hsz : ds.length ≤ 1000) (hs : ∀ x, foldedSetIterable iter env x = pure x := by intro _; rfl) :
    CompU (fun _ => accR) prog w K base dd env ρ (.ListComp elt [⟨target, iter, [], 0⟩] scope pos) iter scope (ds.map f) := by
  have := cu_one (elt := elt) (pos := pos) hit S binds (fun _ => true) f hasg hslot (fun _ _ _ => tsts_nil) (fun C d hd _ => helt C d hd) hsz hs
  rwa [List.filter_eq_self.mpr fun _ _ => rfl] at this
/-- with one name for its target -/
theorem cu_name {elt iter : Expr} {x : Str} {px : Pos} {pos : Pos} {ds : List PyData} {fz : Bool} (hit : EvIt prog w K base dd env ρ iter ds fz) (S : ScopeOk scope env)
    (f : PyData → PyData) (hx : scope.names.lookup x = some .local)
    (helt : ∀ C, ∀ d ∈ ds, Ev prog w K base dd (cEnv scope C env) (fzs [(x, d)] ++ capt scope ρ) elt (IsS (f d)))
    (hsz : ds.length ≤ 1000) (hs : ∀ x, foldedSetIterable iter env x = pure x := by intro _; rfl) :
    CompU (fun _ => accR) prog w K base dd env ρ (.ListComp elt [⟨.Name x px, iter, [], 0⟩] scope pos) iter scope (ds.map f) :=
  cu_each hit S (fun d => [(x, d)]) f (fun C d _ => asg_name (cEnv_storable S (.inl hx)).1) (fun d _ y hy => by rw [List.mem_singleton.mp hy]; exact .inl hx) helt hsz hs
end

theorem fnAt_hosts (P : Params) : FnAt (hd.heap_39 P) 133 (fdP P 133) (bodyOf (fdP P 133)) ["script"] :=
  ⟨⟨_, _, _, rfl⟩, rfl, rfl, rfl, by kernel_rfl, rfl, bind_of1 fun _ x => binds_script x ⟨rfl, rfl, rfl, rfl, rfl⟩ rfl, by decide +kernel, psB_k (by kernel_rfl), scopeB_n (by kernel_rfl), scopeB_f (by kernel_rfl), rfl, rfl, rfl⟩
end Mine
end

section
open PySem PySem.W PyProof.Rows PySem.Calls
namespace Mine

theorem sub_nil {ρ : List (Str × Bnd)} : ∀ x b, ([] : List (Str × Bnd)).lookup x = some b → ρ.lookup x = some b := fun _ _ e => nomatch e
theorem sub_cons {ρ σ : List (Str × Bnd)} {x : Str} {b : Bnd} (hx : ρ.lookup x = some b) (h : ∀ y c, σ.lookup y = some c → ρ.lookup y = some c) : ∀ y c, ((x, b) :: σ).lookup y = some c → ρ.lookup y = some c := fun y c e => by
  rw [List.lookup_cons] at e
  cases q : y == x with
  | true =>
    rw [q] at e
    cases e
    rw [beq_iff_eq.mp q]; exact hx
  | false => rw [q] at e; exact h y c e
theorem scopeOk {scope : Scope} {env : Env} (hk : scope.kind = .function) (hn : decide (scope.names.map (·.1)).Nodup = true) (hf : (scope.names.all fun p => !(p.2 == NameKind.free) || (env.kindOf p.1 == some .cell || env.kindOf p.1 == some .free)) = true) : ScopeOk scope env :=
  ⟨hk, of_decide_eq_true hn, fun n hm => by
    have := List.all_eq_true.mp hf _ hm
    simpa using this⟩
theorem flat_ints {l : List Int} : ∀ dd ∈ l.map PyData.int, Flat dd := fun dd h => by
  obtain ⟨i, _, rfl⟩ := List.mem_map.mp h; trivial

theorem seedsAt_get (xs : List Int) (i j : Nat) (h : j < 6) : (seedsAt xs i)[j]? = some ((seedsAt xs i).getD j 0) := by
  rw [List.getD_eq_getElem?_getD]
  have : j < (seedsAt xs i).length := by rw [seedsAt_len]; exact h
  rw [List.getElem?_eq_getElem this]; rfl

theorem figOf_bound (xs : List Int) : 1 ≤ figOf xs ∧ figOf xs ≤ 10 ^ 30 := by
  unfold figOf
  have h1 := Int.emod_nonneg ((xs.map fun x => (x.natAbs : Int)).sum) (show (10 ^ 30 : Int) ≠ 0 by decide)
  have h2 := Int.emod_lt_of_pos ((xs.map fun x => (x.natAbs : Int)).sum) (show (0 : Int) < 10 ^ 30 by decide)
  generalize (xs.map fun x => (x.natAbs : Int)).sum % 10 ^ 30 = r at h1 h2
  constructor <;> omega

theorem two_pow_bound (k : Nat) (h : k < 4) : (2 : Int) ^ (k + 2) < 2 ^ 30 ∧ 0 < (2 : Int) ^ (k + 2) := by
  match k, h with
  | 0, _ => decide
  | 1, _ => decide
  | 2, _ => decide
  | 3, _ => decide

/-! the labels are figures -/
theorem lab_zero : Lab "0" := ⟨by decide, by decide, by decide +kernel⟩
theorem lab_fig (xs : List Int) : Lab (figS xs) := by
  have hb := figOf_bound xs
  obtain ⟨m, hm⟩ : ∃ m : Nat, figOf xs = Int.ofNat m := ⟨(figOf xs).toNat, by show figOf xs = ((figOf xs).toNat : Int); omega⟩
  have e : figS xs = ⟨((Nat.toDigits 10 m).map Char.toNat).toArray⟩ := by
    unfold figS; rw [hm]; exact text_ofNat m
  have el : (figS xs).length = (Nat.toDigits 10 m).length := by rw [e]; show (List.toArray _).size = _; rw [List.size_toArray, List.length_map]
  refine ⟨?_, ?_, fun c hc => ?_⟩
  · rw [el]; exact tDigits_len_ge 10 m
  · rw [el]
    have hm' : (m : Int) ≤ 10 ^ 30 := by have := hb.2; rw [hm] at this; exact this
    have : m < 10 ^ 31 := by omega
    exact Nat.le_trans (toDigits_len_pow (b := 10) (k := 31) (by decide) (by decide) this) (by decide)
  · rw [e] at hc
    obtain ⟨ch, h1, rfl⟩ := List.mem_map.mp hc
    have h2 := Nat.isDigit_of_mem_toDigits (by decide) (by decide) h1
    unfold Char.isDigit at h2
    unfold Sre.isDigit
    have h3 := (Bool.and_eq_true _ _).mp h2
    have a1 := of_decide_eq_true h3.1
    have a2 := of_decide_eq_true h3.2
    have b1 : (48 : Nat) ≤ ch.toNat := a1
    have b2 : ch.toNat ≤ 57 := a2
    simp [b1, b2]
theorem Lab.ok {l : Str} (h : Lab l) : PyData.strOk l = true := by
  unfold PyData.strOk
  rw [← Array.all_toList, List.all_eq_true]
  intro c hc
  have := h.dig c hc
  unfold Sre.isDigit at this
  have h3 := (Bool.and_eq_true _ _).mp this
  have a2 := of_decide_eq_true h3.2
  exact decide_eq_true (by omega)
theorem labsOf_lab {f : Str} (hf : Lab f) (m : Int) : ∀ l ∈ labsOf f m, Lab l := fun l hl => by
  obtain ⟨k, _, rfl⟩ := List.mem_map.mp hl
  unfold labAt
  split
  · exact lab_zero
  · exact hf
theorem labsOf_len {f : Str} (m : Int) : (labsOf f m).length ≤ 3 := by
  unfold labsOf
  rw [List.length_map, List.length_range]
  omega
theorem hostsF_lab {f : Str} (hf : Lab f) (seeds : List Int) : ∀ h ∈ hostsF f seeds, (∀ l ∈ h.1, Lab l) ∧ h.1.length ≤ 3 := by
  have : ∀ (seeds : List Int) (hs : List Host), (∀ h ∈ hs, (∀ l ∈ h.1, Lab l) ∧ h.1.length ≤ 3) → ∀ h ∈ seeds.foldl (hostsStep f) hs, (∀ l ∈ h.1, Lab l) ∧ h.1.length ≤ 3 := by
    intro seeds
    induction seeds with
    | nil => intro hs h; exact h
    | cons s r ih =>
      intro hs h
      rw [List.foldl_cons]
      refine ih _ fun x hx => ?_
      unfold hostsStep at hx
      split at hx
      · exact h x hx
      · rcases List.mem_append.mp hx with hx | hx
        · exact h x hx
        · rw [List.mem_singleton.mp hx]; exact ⟨labsOf_lab hf _, labsOf_len _⟩
  exact this seeds [] fun _ m => nomatch m
theorem ok_labels {ls : List Str} (h : ∀ l ∈ ls, Lab l) : OkD 1 (.list (ls.map PyData.str)) := ok_list fun d hd => by
  obtain ⟨l, hl, rfl⟩ := List.mem_map.mp hd
  exact ok_str (h l hl).ok

theorem fn_hosts {prog : Program} {w : World} {base : Heap} {P : Params} {ns : List Int} (h63 : ns.length ≤ 63) :
    Fn prog w (hd.heap_39 P) base 2 133 [.list (ns.map PyData.int)] (.list ((hostsOf ns).map hostD)) := by
  refine fn_intro (fnAt_hosts P) rfl (by decide) fun d L hdd => ?_
  generalize hE : callEnvC (fdP P 133) L 133 = env
  have k1 : env.kindOf "seeds" = some .local := by rw [← hE]; rfl
  have k2 : env.kindOf "place" = some .local := by rw [← hE]; rfl
  have k3 : env.kindOf "x" = some .local := by rw [← hE]; rfl
  have k4 : Storable env "figure" := by rw [← hE]; exact .inr ⟨rfl, _, rfl⟩
  have k5 : env.kindOf "hosts" = some .local := by rw [← hE]; rfl
  have k6 : env.kindOf "seed" = some .local := by rw [← hE]; rfl
  have k7 : Storable env "m" := by rw [← hE]; exact .inr ⟨rfl, _, rfl⟩
  have k8 : env.kindOf "labels" = some .local := by rw [← hE]; rfl
  have g1 : env.kindOf "enumerate" = some .globalImplicit := by rw [← hE]; rfl
  have g2 : env.kindOf "str" = some .globalImplicit := by rw [← hE]; rfl
  have g3 : env.kindOf "sum" = some .globalImplicit := by rw [← hE]; rfl
  have g4 : env.kindOf "range" = some .globalImplicit := by rw [← hE]; rfl
  have hi : interactive env = false := by rw [← hE]; rfl
  have etake : (ns.map PyData.int).take (18 : Int).toNat = (ns.take 18).map PyData.int := (List.map_take ..).symm
  show Ex _ _ _ _ _ _ _ _ (.ret (.list ((hostsF (figS (ns.take 18)) (seedsAt (ns.take 18) (ns.take 18).length)).map hostD)))
  have hxs : (ns.take 18).length ≤ 18 := List.length_take_le ..
  generalize ns.take 18 = xs at *
  refine ex_cons (ex_new (x := "seeds") (ds := (seedsAt xs 0).map PyData.int) (.inl k1) (ev_list (evs_cons ev_int (evs_cons ev_int (evs_cons ev_int (evs_cons ev_int (evs_cons ev_int (evs_cons ev_int evs_nilS)))))) (by show 6 ≤ 1000; decide)) flat_ints) ?_
  have hscript : ∀ {ρ : List (Str × Bnd)} {e : Env} {p1 p2 p3 p4 : Pos} {k} {d : Nat}, ρ.lookup ("script" : Str) = some (.fz (.list (ns.map PyData.int))) → Ev prog w (hd.heap_39 P) base d e ρ (.Subscript (.Name "script" p1) (.Slice none (some (.Constant (.int 18) k p2)) none p3) p4) (IsNew (xs.map PyData.int)) := fun h => by
    rw [← etake]
    exact ev_take (ev_fz h).s_l ev_int.s_w (by decide) (by rw [List.length_map]; omega)
  refine ex_cons (ex_for_enum (x := "place") (y := "x") (ds := xs.map PyData.int) (hscript rfl).n_s rfl g1 (.inl k2) (.inl k3) (by decide)
    (fun i => [("seeds", .own ((seedsAt xs i).map PyData.int)), ("script", .fz (.list (ns.map PyData.int)))]) ?_ fun i dd hdi => ?_) ?_
  · exact sub_cons rfl (sub_cons rfl sub_nil)
  · rw [List.getElem?_map] at hdi
    obtain ⟨x, hx, rfl⟩ := Option.map_eq_some_iff.mp hdi
    have hm : ((i : Int) % 6).toNat = i % 6 := by omega
    refine (ex_cons (ex_aug (x := "seeds") (k := (i : Int) % 6) (a := (seedsAt xs i).getD (i % 6) 0) (b := x) (c := (seedsAt xs i).getD (i % 6) 0 + x) rfl (ev_mod (ev_fz rfl).s_w ev_int.s_w (by decide)).s_w (by omega) (by omega) ?_ (ev_fz rfl).s_w
      (fun A s E Q t u q => PySem.AutoIntOps.iadd_0 q)) ex_nil).weak (sub_cons ?_ (sub_cons rfl sub_nil))
    · rw [hm, List.getElem?_map, seedsAt_get xs i _ (Nat.mod_lt _ (by decide))]; rfl
    · show some _ = some _
      rw [hm, seedsAt, List.map_set, List.getD_eq_getElem?_getD (l := xs), hx]; rfl
  rw [List.length_map]
  have hfig := figOf_bound xs
  refine ex_cons (ex_set (x := "figure") (dd := .str (figS xs)) k4 (ev_str_of (n := figOf xs) rfl g2 (ev_add ev_int.s_w (ev_mod (a := (xs.map fun x => (x.natAbs : Int)).sum) (b := 10 ^ 30) (ev_sum rfl g3 ?_).s_w (ev_pow (n := 30) ev_int.s_w ev_int.s_w (by decide) (by decide) (by decide)).s_w (by decide)).s_w).s_w ?_)) ?_
  · have e1 : (xs.map fun x => (x.natAbs : Int)).map PyData.int = (xs.map PyData.int).map fun dd => PyData.int ((iOf dd).natAbs : Int) := by rw [List.map_map, List.map_map]; rfl
    rw [e1]
    refine (CompU.ev (cu_name (fz := false) (it_S (hscript rfl).n_s) (scopeOk rfl rfl rfl) (fun dd => PyData.int ((iOf dd).natAbs : Int)) rfl (fun C dd hd => ?_) (by rw [List.length_map]; omega))).n_l
    obtain ⟨x, hx, rfl⟩ := List.mem_map.mp hd
    exact ev_abs (n := x) rfl rfl (ev_fz rfl).s_w
  · have : (figOf xs).natAbs < 2 ^ 1920 := Nat.lt_of_le_of_lt (m := 10 ^ 30) (by omega) (by decide +kernel)
    rcases Nat.eq_zero_or_pos (figOf xs).natAbs with h | h
    · rw [h]; decide
    · exact (Nat.log2_lt (by omega)).mpr this
  have hsl := seedsAt_len xs xs.length
  generalize seedsAt xs xs.length = seeds at *
  have hlab := lab_fig xs
  generalize figS xs = f at *
  refine ex_cons (ex_new (x := "hosts") (ds := []) (.inl k5) (ev_list evs_nilS (by decide)) (fun _ m => (nomatch m))) ?_
  refine ex_freeze (x := "seeds") (ds := seeds.map PyData.int) rfl ?_
  refine ex_cons (ex_for (ds := seeds.map PyData.int) (it_S (ev_fz rfl)) (fun dd => [("seed", dd)]) (fun i => [("hosts", .own ((hostsF f (seeds.take i)).map hostD)), ("figure", .fz (.str f))])
    (fun dd _ => asg_name (.inl k6)) (fun dd _ x hx => by rw [List.mem_singleton.mp hx]; exact .inl k6) ?_ fun i dd hdi => ?_) ?_
  · exact sub_cons rfl (sub_cons rfl sub_nil)
  · rw [List.getElem?_map] at hdi
    obtain ⟨seed, hseed, rfl⟩ := Option.map_eq_some_iff.mp hdi
    have hi6 : i < 6 := by rw [← hsl]; exact (List.getElem?_eq_some_iff.mp hseed).1
    have hstep := hostsF_take f seeds i seed hseed
    have hlabs := hostsF_lab hlab (seeds.take i)
    have hlen : (hostsF f (seeds.take i)).length ≤ 6 := Nat.le_trans (hostsF_len f _) (by rw [List.length_take]; omega)
    generalize hostsF f (seeds.take i) = hs at *
    refine ex_cons (ex_set (x := "m") (dd := .int (seed % 1000000)) k7 (ev_mod (ev_fz rfl).s_w ev_int.s_w (by decide))) ?_
    have hm0 : 0 ≤ seed % 1000000 := Int.emod_nonneg _ (by decide)
    have hm1 : seed % 1000000 < 1000000 := Int.emod_lt_of_pos _ (by decide)
    unfold hostsStep at hstep
    generalize seed % 1000000 = m at *
    refine ex_cons (ex_comp (x := "labels") (ds := (labsOf f m).map PyData.str) (.inl k8) ?_ (by rw [← hE]; rfl)) ?_
    · have e1 : (labsOf f m).map PyData.str = ((List.range (m % 4).toNat).map fun i : Nat => PyData.int i).map fun dd => PyData.str (labAt f m (iOf dd).toNat) := by
        unfold labsOf; rw [List.map_map, List.map_map]; rfl
      rw [e1]
      refine cu_name (fz := false) (it_range (n := m % 4) (ev_mod (ev_fz rfl).s_w ev_int.s_w (by decide)).s_w (by omega) (by omega) rfl g4) (scopeOk rfl rfl (by rw [← hE]; rfl)) (fun dd => PyData.str (labAt f m (iOf dd).toNat)) rfl (fun C dd hd => ?_)
        (by rw [List.length_map, List.length_range]; omega)
      obtain ⟨k, hk, rfl⟩ := List.mem_map.mp hd
      have hk4 : k < 4 := by
        have := List.mem_range.mp hk
        omega
      have hp := two_pow_bound k hk4
      have e2 : ((k : Int) + 2).toNat = k + 2 := by omega
      have hb : m / 2 ^ (k + 2) % 2 = 0 ∨ m / 2 ^ (k + 2) % 2 = 1 := by omega
      refine ev_item (ds := [.str "0", .str f]) (k := m / 2 ^ (k + 2) % 2) (ev_list (evs_cons ev_str (evs_cons (ev_fz rfl) evs_nilS)) (by show 2 ≤ 1000; decide)).n_l
        (ev_mod (ev_div (ev_fz rfl).s_w ((congrArg (fun j => (2 : Int) ^ j) e2) ▸ (ev_pow ev_int.s_w (ev_add (ev_fz rfl).s_w ev_int.s_w).s_w (by omega) (by omega) (by decide)).s_w) hp.2 hm0 (by omega) hp.1).s_w ev_int.s_w (by decide)).s_w (by omega) (by omega) ?_
      show _ = some (PyData.str (labAt f m k))
      unfold labAt
      rcases hb with h | h
      · rw [h]; rfl
      · rw [h]; rfl
    refine ex_cons (ex_if (b := !decide (labsOf f m ∈ hs.map Prod.fst)) (o := .next [("hosts", .own ((if labsOf f m ∈ hs.map Prod.fst then hs else hs ++ [(labsOf f m, m / 32)]).map hostD)), ("figure", .fz (.str f))])
      (tst_cmp (ev_fz rfl).s_w (CompU.ev (cu_name (fz := false) (it_L (ev_own rfl)) (scopeOk rfl rfl rfl) at0 rfl (fun C dd hd => ?_) (by rw [List.length_map]; omega))).n_w (any_labels hs (labsOf f m) ▸ cmp_notin ?_ ?_) (good_W _)) (fun hb => ?_) (fun hb => ?_)) ?_
    · obtain ⟨h, hh, rfl⟩ := List.mem_map.mp hd
      exact ev_tupitem (ds := [.list (h.1.map PyData.str), .int h.2]) (k := 0) (ev_fz rfl) ev_int.s_w (by decide) (by decide) rfl
    · have hb' : ¬ labsOf f m ∈ hs.map Prod.fst := fun q => by rw [decide_eq_true q] at hb; cases hb
      rw [if_neg hb']
      refine (ex_cons (ex_append (x := "hosts") (ds := hs.map hostD) (dd := hostD (labsOf f m, m / 32)) rfl
        (ev_tuple (evs_cons (ev_fz rfl) (evs_cons (ev_div (ev_fz rfl).s_w ev_int.s_w (by decide) hm0 (by omega) (by decide)) evs_nilS)) (by show 2 ≤ 1000; decide)) (by rw [List.length_map]; omega) hi rfl rfl rfl) ex_nil).weak (sub_cons ?_ (sub_cons rfl sub_nil))
      rw [List.map_append]; rfl
    · have hb' : labsOf f m ∈ hs.map Prod.fst := by
        have : decide (labsOf f m ∈ hs.map Prod.fst) = true := by cases q : decide (labsOf f m ∈ hs.map Prod.fst) <;> rw [q] at hb <;> first | rfl | cases hb
        exact of_decide_eq_true this
      rw [if_pos hb']
      exact ex_nil.weak (sub_cons rfl (sub_cons rfl sub_nil))
    · rw [hstep]
      exact ex_nil
    · exact (ok_labels (labsOf_lab hlab m)).more (by decide)
    · refine (ok_list (k := 1) fun y hy => ?_).more (by decide)
      rw [List.map_map] at hy
      obtain ⟨h, hh, rfl⟩ := List.mem_map.mp hy
      exact ok_labels (hlabs h hh).1
  refine ex_freeze (x := "hosts") rfl (ex_stop (ex_return ?_))
  rw [List.length_map, List.take_length]
  exact ev_fz rfl
end Mine
end

section
open PySem PySem.W PyProof.Rows PySem.Calls
namespace Mine

/-! the matrix -/
noncomputable def matR (n : Nat) (f : Nat → Nat → Bool) : List (List PyData) := (List.range n).map fun i => (List.range n).map fun j => PyData.bool (f i j)
noncomputable def matD (n : Nat) (f : Nat → Nat → Bool) : PyData := .list ((matR n f).map PyData.list)
theorem matR_row {n : Nat} {f : Nat → Nat → Bool} {i : Nat} (h : i < n) : (matR n f)[i]? = some ((List.range n).map fun j => PyData.bool (f i j)) := by
  unfold matR; rw [List.getElem?_map, List.getElem?_range h]; rfl
theorem row_get {n : Nat} {g : Nat → Bool} {j : Nat} (h : j < n) : ((List.range n).map fun j => PyData.bool (g j))[j]? = some (PyData.bool (g j)) := by
  rw [List.getElem?_map, List.getElem?_range h]; rfl
theorem range_map_set {α : Type} {n : Nat} {g : Nat → α} {i : Nat} {v : α} : ((List.range n).map g).set i v = (List.range n).map fun j => if j = i then v else g j := by
  apply List.ext_getElem?
  intro k
  rw [List.getElem?_set, List.getElem?_map, List.getElem?_map, List.length_map, List.length_range]
  by_cases hk : k < n
  · rw [List.getElem?_range hk]
    by_cases e : i = k
    · subst e; simp [hk]
    · have : ¬ k = i := fun q => e q.symm
      simp [e, this]
  · rw [List.getElem?_eq_none (by rw [List.length_range]; omega)]
    by_cases e : i = k
    · subst e; simp [hk]
    · simp [e]
theorem matR_set {n : Nat} {f : Nat → Nat → Bool} {i j : Nat} {v : Bool} : (matR n f).set i (((List.range n).map fun j => PyData.bool (f i j)).set j (.bool v)) = matR n fun a b => if a = i ∧ b = j then v else f a b := by
  unfold matR
  rw [range_map_set, range_map_set]
  refine List.map_congr_left fun a _ => ?_
  by_cases e : a = i
  · subst e
    rw [if_pos rfl]
    refine List.map_congr_left fun b _ => ?_
    by_cases e2 : b = j
    · simp [e2]
    · simp [e2]
  · rw [if_neg e]
    refine List.map_congr_left fun b _ => ?_
    simp [e]

section
variable {prog : Program} {w : World} {K : Frag} {base : Heap} {d : Nat} {env : Env} {ρ : List (Str × Bnd)} {x y z : Str} {p1 p2 p3 p4 p5 : Pos} {n i j : Nat} {f : Nat → Nat → Bool}
theorem ev_at (hx : ρ.lookup x = some (.fz (matD n f))) (hy : ρ.lookup y = some (.fz (.int i))) (hz : ρ.lookup z = some (.fz (.int j))) (hi : i < n) (hj : j < n) (hn : n ≤ 6)
    (d1 : (x == ("__debug__" : Str)) = false := by decide) (d2 : (y == ("__debug__" : Str)) = false := by decide) (d3 : (z == ("__debug__" : Str)) = false := by decide) :
    Ev prog w K base d env ρ (.Subscript (.Subscript (.Name x p1) (.Name y p2) p3) (.Name z p4) p5) (IsS (.bool (f i j))) := by
  refine ev_item (ds := (List.range n).map fun j => PyData.bool (f i j)) (k := (j : Int)) (ev_item (ds := (matR n f).map PyData.list) (k := (i : Int)) (ev_fz hx d1).s_l (ev_fz hy d2).s_w (by omega) (by omega) ?_).s_l (ev_fz hz d3).s_w (by omega) (by omega) ?_
  · rw [Int.toNat_natCast, List.getElem?_map, matR_row hi]; rfl
  · rw [Int.toNat_natCast, row_get hj]
end

/-! numbers as data -/
noncomputable def natD (k : Nat) : PyData := .int (k : Int)
noncomputable def natsD (l : List Nat) : List PyData := l.map natD
noncomputable def nOf (d : PyData) : Nat := (iOf d).toNat
theorem nOf_natD (k : Nat) : nOf (natD k) = k := by unfold nOf natD iOf; simp
theorem any_nat (l : List Nat) (k : Nat) : ((natsD l).any fun y => PyData.eqv y (natD k)) = decide (k ∈ l) := by
  rw [Bool.eq_iff_iff, List.any_eq_true, decide_eq_true_iff]
  constructor
  · rintro ⟨y, hy, e⟩
    obtain ⟨m, hm, rfl⟩ := List.mem_map.mp hy
    have : ((m : Int) == (k : Int)) = true := e
    have : (m : Int) = k := beq_iff_eq.mp this
    have : m = k := by omega
    rw [← this]; exact hm
  · intro h
    exact ⟨natD k, List.mem_map.mpr ⟨k, h, rfl⟩, by show ((k : Int) == (k : Int)) = true; simp⟩
theorem ok_nats (l : List Nat) : OkD 1 (.list (natsD l)) := ok_list fun d hd => by
  obtain ⟨k, _, rfl⟩ := List.mem_map.mp hd; exact ok_int _
theorem eqv_nil (l : List PyData) : PyData.eqv (.list l) (.list []) = l.isEmpty := by
  cases l <;> simp [PyData.eqv, PyData.eqvAll]
/-! what _law_due computes -/
noncomputable def cmpH (hs : List Host) (a b : Nat) : Bool :=
  let A := (hs.getD a ([], 0)).1; let B := (hs.getD b ([], 0)).1
  decide (A.take (min A.length B.length) = B.take (min A.length B.length))
noncomputable def bitH (hs : List Host) (a b : Nat) : Bool := decide ((hs.getD a ([], 0)).2 / 2 ^ b % 2 = 1)
/-- a goes ahead of b -/
noncomputable def aheadH (hs : List Host) (a b : Nat) : Bool := if a < b then cmpH hs a b && bitH hs a b else if b < a then cmpH hs b a && !bitH hs b a else false
/-- the same, of the pairs looked at ahead of (b, a) -/
noncomputable def aheadTo (hs : List Host) (b a : Nat) (i j : Nat) : Bool := (decide (max i j < b) || (decide (max i j = b) && decide (min i j < a))) && aheadH hs i j

noncomputable def tri (n : Nat) (f : Nat → Nat → Bool) (a : Nat) : Bool := !(((List.range n).filter (f a)).flatMap fun b => (List.range n).filter fun c => f b c && f c a).isEmpty
noncomputable def lost0 (n : Nat) (f : Nat → Nat → Bool) : List Nat := (List.range n).filter (tri n f)
noncomputable def lostStep (n : Nat) (f : Nat → Nat → Bool) (L : List Nat) : List Nat := (List.range n).filter fun b => decide (b ∈ L) || !(L.filter fun a => f a b).isEmpty
noncomputable def lostTo (n : Nat) (f : Nat → Nat → Bool) : Nat → List Nat
  | 0 => lost0 n f
  | t + 1 => lostStep n f (lostTo n f t)
noncomputable def needsD (n : Nat) (f : Nat → Nat → Bool) (gone : List Nat) (b : Nat) : List Nat := ((List.range n).filter fun a => f a b).map fun a => if a ∈ gone then gone.idxOf a else n
noncomputable def keyD (ks : List Nat) : Int := maxI (-1 :: ks.map fun k : Nat => (k : Int))
noncomputable def readyB (n : Nat) (f : Nat → Nat → Bool) (lost gone : List Nat) (b : Nat) : Bool := decide (b ∉ lost) && decide (b ∉ gone) && decide (n ∉ needsD n f gone b)
noncomputable def readyD (n : Nat) (f : Nat → Nat → Bool) (lost gone : List Nat) (m : Nat) : List (Int × Nat) := ((List.range m).filter (readyB n f lost gone)).map fun b => (keyD (needsD n f gone b), b)
noncomputable def insP (x : Int × Nat) : List (Int × Nat) → List (Int × Nat)
  | [] => [x]
  | y :: ys => if x.1 < y.1 ∨ (x.1 = y.1 ∧ x.2 < y.2) then x :: y :: ys else y :: insP x ys
noncomputable def sortP : List (Int × Nat) → List (Int × Nat)
  | [] => []
  | x :: xs => insP x (sortP xs)
noncomputable def goneTo (n : Nat) (f : Nat → Nat → Bool) (lost : List Nat) : Nat → List Nat
  | 0 => []
  | t + 1 => goneTo n f lost t ++ (sortP (readyD n f lost (goneTo n f lost t) n)).map Prod.snd
noncomputable def wordsD (names : List Str) (l : List Nat) : Str := Txt.join " " (l.map fun b => names.getD b ⟨#[]⟩)
noncomputable def dueText (names : List Str) (lost gone : List Nat) : Str :=
  if lost = [] then wordsD names gone else wordsD names lost ++ " (" ++ wordsD names gone ++ ", line " ++ (toString (gone.length : Int) : Str) ++ ")"

theorem insP_perm (x : Int × Nat) : ∀ l, (insP x l).Perm (x :: l)
  | [] => .refl _
  | y :: ys => by
    unfold insP
    split
    · exact .refl _
    · exact ((insP_perm x ys).cons y).trans (List.Perm.swap ..)
theorem sortP_perm : ∀ l, (sortP l).Perm l
  | [] => .refl _
  | x :: xs => (insP_perm x _).trans ((sortP_perm xs).cons x)
noncomputable def LtN (x y : Int × Nat) : Prop := x.1 < y.1 ∨ (x.1 = y.1 ∧ x.2 < y.2)
theorem insP_sorted (x : Int × Nat) : ∀ l, l.Pairwise LtN → (∀ y ∈ l, y.2 ≠ x.2) → (insP x l).Pairwise LtN
  | [], _, _ => by unfold insP; exact List.pairwise_singleton ..
  | y :: ys, h, hne => by
    have h1 := List.pairwise_cons.mp h
    unfold insP
    split
    · rename_i hlt
      refine List.pairwise_cons.mpr ⟨fun z hz => ?_, h⟩
      rcases List.mem_cons.mp hz with rfl | hz
      · exact hlt
      · have := h1.1 z hz
        unfold LtN at this ⊢
        omega
    · rename_i hlt
      refine List.pairwise_cons.mpr ⟨fun z hz => ?_, insP_sorted x ys h1.2 fun z hz => hne z (.tail _ hz)⟩
      rcases List.mem_cons.mp ((insP_perm x ys).subset hz) with rfl | hz
      · have := hne y (.head _)
        unfold LtN
        omega
      · exact h1.1 z hz
theorem sortP_sorted : ∀ l : List (Int × Nat), (l.map Prod.snd).Nodup → (sortP l).Pairwise LtN
  | [], _ => .nil
  | x :: xs, h => by
    have h1 := List.nodup_cons.mp h
    refine insP_sorted x _ (sortP_sorted xs h1.2) fun y hy e => h1.1 ?_
    rw [← e]
    exact List.mem_map.mpr ⟨y, (sortP_perm xs).subset hy, rfl⟩

theorem readyD_succ (n : Nat) (f : Nat → Nat → Bool) (lost gone : List Nat) (m : Nat) : readyD n f lost gone (m + 1) = readyD n f lost gone m ++ (if readyB n f lost gone m then [(keyD (needsD n f gone m), m)] else []) := by
  unfold readyD
  rw [List.range_succ, List.filter_append, List.map_append]
  congr 1
  cases h : readyB n f lost gone m <;> simp [List.filter, h]
theorem readyD_nodup (n : Nat) (f : Nat → Nat → Bool) (lost gone : List Nat) (m : Nat) : ((readyD n f lost gone m).map Prod.snd).Nodup := by
  unfold readyD
  rw [List.map_map]
  have : ((List.range m).filter (readyB n f lost gone)).map (Prod.snd ∘ fun b => (keyD (needsD n f gone b), b)) = (List.range m).filter (readyB n f lost gone) := by
    rw [show (Prod.snd ∘ fun b => (keyD (needsD n f gone b), b)) = id from rfl, List.map_id]
  rw [this]
  exact (List.nodup_range).filter _
end Mine
end

section
open PySem PySem.W PyProof.Rows PySem.Calls
namespace Mine

structure GoodH (hs : List Host) : Prop where
  len : hs.length ≤ 6
  lab : ∀ h ∈ hs, (∀ l ∈ h.1, Lab l) ∧ h.1.length ≤ 3
  code : ∀ h ∈ hs, 0 ≤ h.2 ∧ h.2 < 2 ^ 30
  nodup : (hs.map Prod.fst).Nodup
noncomputable def namesOf (hs : List Host) : List Str := hs.map fun h => hj h.1

theorem aheadH_self (hs : List Host) (a : Nat) : aheadH hs a a = false := by unfold aheadH; simp
theorem before_succ {b a x m : Nat} (h : ¬ (x = b ∧ m = a)) : (decide (x < b) || (decide (x = b) && decide (m < a + 1))) = (decide (x < b) || (decide (x = b) && decide (m < a))) := by
  by_cases h1 : x = b
  · have h2 : m ≠ a := fun q => h ⟨h1, q⟩
    have e : decide (m < a + 1) = decide (m < a) := decide_eq_decide.mpr ⟨fun q => Nat.lt_of_le_of_ne (Nat.le_of_lt_succ q) h2, fun q => Nat.lt_succ_of_lt q⟩
    rw [e]
  · rw [decide_eq_false h1, Bool.false_and, Bool.false_and]
theorem before_next {b x m : Nat} (h : m < x) : (decide (x < b) || (decide (x = b) && decide (m < b))) = (decide (x < b + 1) || (decide (x = b + 1) && decide (m < 0))) := by
  rw [decide_eq_false (Nat.not_lt_zero m), Bool.and_false, Bool.or_false]
  by_cases h1 : x = b
  · subst h1
    rw [decide_eq_true h, decide_eq_true (Nat.lt_succ_self x), decide_eq_true (rfl : x = x), Bool.true_and, Bool.or_true]
  · rw [decide_eq_false h1, Bool.false_and, Bool.or_false]
    exact decide_eq_decide.mpr ⟨fun q => Nat.lt_succ_of_lt q, fun q => Nat.lt_of_le_of_ne (Nat.le_of_lt_succ q) h1⟩
theorem aheadTo_next (hs : List Host) (b : Nat) (n : Nat) : matR n (aheadTo hs b b) = matR n (aheadTo hs (b + 1) 0) := by
  congr 1
  funext i j
  unfold aheadTo
  rcases Nat.lt_trichotomy i j with e | e | e
  · rw [Nat.max_eq_right (Nat.le_of_lt e), Nat.min_eq_left (Nat.le_of_lt e), before_next e]
  · subst e; rw [aheadH_self, Bool.and_false, Bool.and_false]
  · rw [Nat.max_eq_left (Nat.le_of_lt e), Nat.min_eq_right (Nat.le_of_lt e), before_next e]
theorem aheadTo_all (hs : List Host) (n : Nat) : matR n (aheadTo hs n 0) = matR n (aheadH hs) := by
  unfold matR
  refine List.map_congr_left fun i hi => List.map_congr_left fun j hj => ?_
  have h1 := List.mem_range.mp hi
  have h2 := List.mem_range.mp hj
  unfold aheadTo
  have : decide (max i j < n) = true := decide_eq_true (by omega)
  rw [this, Bool.true_or, Bool.true_and]
theorem aheadTo_none (hs : List Host) (n : Nat) : matR n (aheadTo hs 0 0) = matR n fun _ _ => false := by
  congr 1
  funext i j
  unfold aheadTo
  simp
theorem aheadTo_no (hs : List Host) (n a b : Nat) (hab : a < b) (h : cmpH hs a b = false) : matR n (aheadTo hs b (a + 1)) = matR n (aheadTo hs b a) := by
  congr 1
  funext i j
  unfold aheadTo
  by_cases e : max i j = b ∧ min i j = a
  · have : aheadH hs i j = false := by
      unfold aheadH
      rcases Nat.lt_trichotomy i j with q | q | q
      · rw [Nat.max_eq_right (Nat.le_of_lt q), Nat.min_eq_left (Nat.le_of_lt q)] at e
        rw [if_pos q, e.1, e.2, h, Bool.false_and]
      · rw [if_neg (by rw [q]; exact Nat.lt_irrefl j), if_neg (by rw [q]; exact Nat.lt_irrefl j)]
      · rw [Nat.max_eq_left (Nat.le_of_lt q), Nat.min_eq_right (Nat.le_of_lt q)] at e
        rw [if_neg (Nat.lt_asymm q), if_pos q, e.1, e.2, h, Bool.false_and]
    rw [this, Bool.and_false, Bool.and_false]
  · rw [before_succ e]
theorem aheadTo_yes (hs : List Host) (n a b : Nat) (hab : a < b) (h : cmpH hs a b = true) :
    matR n (fun i j => if i = b ∧ j = a then !bitH hs a b else (fun i j => if i = a ∧ j = b then bitH hs a b else aheadTo hs b a i j) i j) = matR n (aheadTo hs b (a + 1)) := by
  congr 1
  funext i j
  show (if i = b ∧ j = a then !bitH hs a b else if i = a ∧ j = b then bitH hs a b else aheadTo hs b a i j) = _
  have top : (decide (b < b) || (decide (b = b) && decide (a < a + 1))) = true := by
    rw [decide_eq_true (rfl : b = b), decide_eq_true (Nat.lt_succ_self a), Bool.true_and, Bool.or_true]
  by_cases e1 : i = b ∧ j = a
  · rw [if_pos e1, e1.1, e1.2]
    unfold aheadTo aheadH
    rw [if_neg (Nat.lt_asymm hab), if_pos hab, h, Nat.max_eq_left (Nat.le_of_lt hab), Nat.min_eq_right (Nat.le_of_lt hab), top, Bool.true_and, Bool.true_and]
  · rw [if_neg e1]
    by_cases e2 : i = a ∧ j = b
    · rw [if_pos e2, e2.1, e2.2]
      unfold aheadTo aheadH
      rw [if_pos hab, h, Nat.max_eq_right (Nat.le_of_lt hab), Nat.min_eq_left (Nat.le_of_lt hab), top, Bool.true_and, Bool.true_and]
    · rw [if_neg e2]
      unfold aheadTo
      rw [before_succ fun q => ?_]
      rcases Nat.le_total i j with z | z
      · rw [Nat.max_eq_right z, Nat.min_eq_left z] at q
        exact e2 ⟨q.2, q.1⟩
      · rw [Nat.max_eq_left z, Nat.min_eq_right z] at q
        exact e1 ⟨q.1, q.2⟩

theorem fnAt_due (P : Params) : FnAt (hd.heap_39 P) 150 (fdP P 150) (bodyOf (fdP P 150)) ["hosts", "names"] :=
  ⟨⟨_, _, _, rfl⟩, rfl, rfl, rfl, by kernel_rfl, rfl, bind_of2 fun _ x y => binds_hn x y ⟨rfl, rfl, rfl, rfl, rfl⟩ rfl, by decide +kernel, psB_k (by kernel_rfl), scopeB_n (by kernel_rfl), scopeB_f (by kernel_rfl), rfl, rfl, rfl⟩

section
variable {prog : Program} {w : World} {K : Frag} {base : Heap} {d : Nat} {env : Env} {ρ : List (Str × Bnd)} {x y : Str} {p1 p2 p3 p4 p5 : Pos} {i : Nat} {hs : List Host}
theorem ev_host (hx : ρ.lookup x = some (.fz (.list (hs.map hostD)))) (hy : ρ.lookup y = some (.fz (natD i))) (hi : i < hs.length) (hn : hs.length ≤ 6)
    (d1 : (x == ("__debug__" : Str)) = false := by decide) (d2 : (y == ("__debug__" : Str)) = false := by decide) : Ev prog w K base d env ρ (.Subscript (.Name x p1) (.Name y p2) p3) (IsS (hostD (hs.getD i ([], 0)))) := by
  refine ev_item (ds := hs.map hostD) (k := (i : Int)) (ev_fz hx d1).s_l (ev_fz hy d2).s_w (by omega) (by omega) ?_
  rw [Int.toNat_natCast, List.getElem?_map, List.getElem?_eq_getElem hi, List.getD_eq_getElem?_getD, List.getElem?_eq_getElem hi]; rfl
theorem ev_labels {k : Nat} (hx : ρ.lookup x = some (.fz (.list (hs.map hostD)))) (hy : ρ.lookup y = some (.fz (natD i))) (hi : i < hs.length) (hn : hs.length ≤ 6)
    (d1 : (x == ("__debug__" : Str)) = false := by decide) (d2 : (y == ("__debug__" : Str)) = false := by decide) : Ev prog w K base d env ρ (.Subscript (.Subscript (.Name x p1) (.Name y p2) p3) (.Constant (.int 0) k p4) p5) (IsS (.list ((hs.getD i ([], 0)).1.map PyData.str))) :=
  ev_tupitem (k := 0) (ev_host hx hy hi hn d1 d2) ev_int.s_w (by decide) (by decide) rfl
theorem ev_code {k : Nat} (hx : ρ.lookup x = some (.fz (.list (hs.map hostD)))) (hy : ρ.lookup y = some (.fz (natD i))) (hi : i < hs.length) (hn : hs.length ≤ 6)
    (d1 : (x == ("__debug__" : Str)) = false := by decide) (d2 : (y == ("__debug__" : Str)) = false := by decide) : Ev prog w K base d env ρ (.Subscript (.Subscript (.Name x p1) (.Name y p2) p3) (.Constant (.int 1) k p4) p5) (IsS (.int (hs.getD i ([], 0)).2)) :=
  ev_tupitem (k := 1) (ev_host hx hy hi hn d1 d2) ev_int.s_w (by decide) (by decide) rfl
end
theorem GoodH.at {hs : List Host} (G : GoodH hs) {i : Nat} (hi : i < hs.length) : hs.getD i ([], 0) ∈ hs := by
  rw [List.getD_eq_getElem?_getD, List.getElem?_eq_getElem hi]; exact List.getElem_mem hi
theorem two_pow6 (b : Nat) (h : b < 6) : (2 : Int) ^ b < 2 ^ 30 ∧ 0 < (2 : Int) ^ b := by
  match b, h with
  | 0, _ => decide
  | 1, _ => decide
  | 2, _ => decide
  | 3, _ => decide
  | 4, _ => decide
  | 5, _ => decide
end Mine
end

section
open PySem PySem.W PyProof.Rows PySem.Calls
namespace Mine

theorem nat_at {n i : Nat} {dd : PyData} (h : (natsD (List.range n))[i]? = some dd) : i < n ∧ dd = natD i := by
  unfold natsD at h
  rw [List.getElem?_map] at h
  obtain ⟨k, hk, rfl⟩ := Option.map_eq_some_iff.mp h
  obtain ⟨h1, h2⟩ := List.getElem?_eq_some_iff.mp hk
  rw [List.length_range] at h1
  rw [List.getElem_range] at h2
  exact ⟨h1, by rw [h2]⟩

section
variable {prog : Program} {w : World} {K : Frag} {base : Heap} {d : Nat} {env : Env} {ρ : List (Str × Bnd)} {v u l r : Expr} {p pos : Pos}
theorem ev_takeN {k : Nat} {ds : List PyData} (hv : Ev prog w K base d env ρ v (IsL ds)) (hu : Ev prog w K base d env ρ u (IsW (natD k))) (hz : ds.length ≤ 1000000) :
    Ev prog w K base d env ρ (.Subscript v (.Slice none (some u) none p) pos) (IsNew (ds.take k)) := by
  have := ev_take (pos := pos) (p := p) hv hu (by omega) hz
  rwa [Int.toNat_natCast] at this
theorem ev_powN {a : Int} {n : Nat} (hl : Ev prog w K base d env ρ l (IsW (.int a))) (hr : Ev prog w K base d env ρ r (IsW (natD n))) (hn2 : n ≤ 1000000) (ha : a.natAbs < 2 ^ 64) : Ev prog w K base d env ρ (.BinOp l .Pow r pos) (IsS (.int (a ^ n))) := by
  have := ev_pow (pos := pos) hl hr (by omega) (by omega) ha
  rwa [Int.toNat_natCast] at this
end

theorem filter_natsD (l : List Nat) (p : PyData → Bool) : (natsD l).filter p = natsD (l.filter fun k => p (natD k)) := List.filter_map ..
theorem flatMap_natsD (l : List Nat) (g : PyData → List PyData) : (natsD l).flatMap g = l.flatMap fun k => g (natD k) := List.flatMap_map ..
theorem natsD_flatMap (l : List Nat) (g : Nat → List Nat) : natsD (l.flatMap g) = l.flatMap fun k => natsD (g k) := List.map_flatMap ..
theorem natsD_empty (l : List Nat) : (natsD l).isEmpty = l.isEmpty := by cases l <;> rfl
theorem tri_list (n : Nat) (f : Nat → Nat → Bool) (a : Nat) : (((natsD (List.range n)).filter fun d => f a (nOf d)).flatMap fun d => ((natsD (List.range n)).filter fun d2 => f (nOf d) (nOf d2) && f (nOf d2) a).map fun d2 => d2)
    = natsD (((List.range n).filter (f a)).flatMap fun b => (List.range n).filter fun c => f b c && f c a) := by
  rw [filter_natsD, flatMap_natsD, natsD_flatMap]
  have e1 : (fun k => f a (nOf (natD k))) = f a := by funext k; rw [nOf_natD]
  rw [e1]
  congr 1
  funext b
  rw [List.map_id', filter_natsD]
  simp only [nOf_natD]
theorem lost_list (n : Nat) (f : Nat → Nat → Bool) (L : List Nat) : (((natsD (List.range n)).filter fun d => decide (nOf d ∈ L) || !(L.filter fun a => f a (nOf d)).isEmpty).map fun d => d) = natsD (lostStep n f L) := by
  rw [List.map_id', filter_natsD]
  simp only [nOf_natD]
  rfl

theorem lostTo_lt (n : Nat) (f : Nat → Nat → Bool) : ∀ t, ∀ k ∈ lostTo n f t, k < n
  | 0, k, h => List.mem_range.mp (List.mem_filter.mp h).1
  | t + 1, k, h => List.mem_range.mp (List.mem_filter.mp h).1

theorem lostTo_len (n : Nat) (f : Nat → Nat → Bool) : ∀ t, (lostTo n f t).length ≤ n
  | 0 => Nat.le_trans (List.length_filter_le _ _) (by rw [List.length_range]; exact Nat.le_refl _)
  | t + 1 => Nat.le_trans (List.length_filter_le _ _) (by rw [List.length_range]; exact Nat.le_refl _)

theorem sortP_len (l : List (Int × Nat)) : (sortP l).length = l.length := (sortP_perm l).length_eq
theorem readyD_len (n : Nat) (f : Nat → Nat → Bool) (lost gone : List Nat) (m : Nat) : (readyD n f lost gone m).length ≤ m := by
  unfold readyD
  rw [List.length_map]
  exact Nat.le_trans (List.length_filter_le _ _) (by rw [List.length_range]; exact Nat.le_refl _)
theorem goneTo_len (n : Nat) (f : Nat → Nat → Bool) (lost : List Nat) : ∀ t, (goneTo n f lost t).length ≤ t * n
  | 0 => Nat.zero_le _
  | t + 1 => by
    unfold goneTo
    rw [List.length_append, List.length_map, sortP_len, Nat.succ_mul]
    exact Nat.add_le_add (goneTo_len n f lost t) (readyD_len ..)
theorem goneTo_lt (n : Nat) (f : Nat → Nat → Bool) (lost : List Nat) : ∀ t, ∀ k ∈ goneTo n f lost t, k < n
  | 0, k, h => nomatch h
  | t + 1, k, h => by
    unfold goneTo at h
    rcases List.mem_append.mp h with h | h
    · exact goneTo_lt n f lost t k h
    · obtain ⟨p, hp, rfl⟩ := List.mem_map.mp h
      obtain ⟨b, hb, rfl⟩ := List.mem_map.mp ((sortP_perm _).subset hp)
      exact List.mem_range.mp (List.mem_filter.mp hb).1
noncomputable def readyPD (p : Int × Nat) : PyData := pairD (p.1, (p.2 : Int))

theorem natsD_get (l : List Nat) (i : Nat) (h : i < (natsD l).length) (h' : i < l.length) : (natsD l)[i] = natD l[i] := List.getElem_map (h := h) natD
theorem idx_hit (l : List Nat) (a : Nat) (h : l.idxOf a < (natsD l).length) : PyData.eqv (natsD l)[l.idxOf a] (natD a) = true := by
  have h' : l.idxOf a < l.length := by unfold natsD at h; rwa [List.length_map] at h
  rw [natsD_get l _ h h', List.getElem_idxOf]
  show ((a : Int) == (a : Int)) = true
  simp
theorem idx_before (l : List Nat) (a m : Nat) (h : m < (natsD l).length) (hm : m < l.idxOf a) : PyData.eqv (natsD l)[m] (natD a) = false := by
  have h' : m < l.length := by unfold natsD at h; rwa [List.length_map] at h
  rw [natsD_get l _ h h']
  have : ¬ (l[m] == a) = true := by simpa using List.not_of_lt_findIdx hm
  show (((l[m] : Nat) : Int) == (a : Int)) = false
  simp only [beq_iff_eq] at this
  simp only [beq_eq_false_iff_ne, ne_eq]
  omega

theorem join_len (sep : Str) : ∀ (ys : List Str), (Txt.join sep ys).length ≤ (ys.map (·.length)).sum + ys.length * sep.length := fun ys => by
  match ys with
  | [] => exact Nat.zero_le _
  | y :: ys =>
    have : ∀ (ys : List Str) (acc : Array Nat), (ys.foldl (fun acc p => acc ++ sep.cps ++ p.cps) acc).size ≤ acc.size + (ys.map (·.length)).sum + ys.length * sep.length := by
      intro ys
      induction ys with
      | nil => intro acc; simp
      | cons z zs ih =>
        intro acc
        rw [List.foldl_cons]
        refine Nat.le_trans (ih _) ?_
        have e1 : (acc ++ sep.cps ++ z.cps).size = acc.size + sep.length + z.length := by rw [Array.size_append, Array.size_append]; rfl
        have e2 : sep.cps.size = sep.length := rfl
        rw [e1, List.map_cons, List.sum_cons, List.length_cons, Nat.succ_mul]
        omega
    have h := this ys y.cps
    show (ys.foldl (fun acc p => acc ++ sep.cps ++ p.cps) y.cps).size ≤ _
    have e2 : y.cps.size = y.length := rfl
    rw [List.map_cons, List.sum_cons, List.length_cons, Nat.succ_mul]
    omega
theorem sum_le {α : Type} (g : α → Nat) (c : Nat) : ∀ l : List α, (∀ x ∈ l, g x ≤ c) → (l.map g).sum ≤ l.length * c
  | [], _ => Nat.zero_le _
  | x :: xs, h => by
    rw [List.map_cons, List.sum_cons, List.length_cons, Nat.succ_mul]
    have h1 := h x (.head _)
    have h2 := sum_le g c xs fun y hy => h y (.tail _ hy)
    omega
theorem getD_mem {names : List Str} {k : Nat} (h : k < names.length) : names.getD k ⟨#[]⟩ ∈ names := by
  rw [List.getD_eq_getElem?_getD, List.getElem?_eq_getElem h]; exact List.getElem_mem h
theorem words_sum {names : List Str} {L : List Nat} (hL : ∀ k ∈ L, k < names.length) (hL36 : L.length ≤ 36) (hw : ∀ nm ∈ names, nm.length ≤ 124) : ((L.map fun b => names.getD b ⟨#[]⟩).map (·.length)).sum + (L.map fun b => names.getD b ⟨#[]⟩).length * (" " : Str).length ≤ 4500 := by
  have h1 := sum_le (fun y : Str => y.length) 124 (L.map fun b => names.getD b ⟨#[]⟩) fun y hy => by
    obtain ⟨k, hk, rfl⟩ := List.mem_map.mp hy
    exact hw _ (getD_mem (hL k hk))
  have e : (" " : Str).length = 1 := by decide
  rw [List.length_map] at h1
  rw [e, List.length_map]
  omega
theorem words_len {names : List Str} {L : List Nat} (hL : ∀ k ∈ L, k < names.length) (hL36 : L.length ≤ 36) (hw : ∀ nm ∈ names, nm.length ≤ 124) : (wordsD names L).length ≤ 4500 :=
  Nat.le_trans (join_len " " _) (words_sum hL hL36 hw)

section
variable {prog : Program} {w : World} {P : Params} {base : Heap} {d : Nat} {env : Env} {ρ : List (Str × Bnd)}
theorem ev_words {names : List Str} {L : List Nat} {x : Str} {p1 p2 p3 p4 p5 p6 pos pos' apos : Pos} {k : Nat} {scope} (hx : ρ.lookup x = some (.fz (.list (natsD L)))) (S : ScopeOk scope env) (hb : scope.names.lookup ("b" : Str) = some NameKind.local)
    (hn : ∀ dd, (fzs [("b", dd)] ++ capt scope ρ).lookup ("names" : Str) = some (Bnd.fz (.list (names.map .str)))) (hL : ∀ k ∈ L, k < names.length) (hL36 : L.length ≤ 36) (hN : names.length ≤ 6) (hw : ∀ nm ∈ names, nm.length ≤ 124)
    (hline : (apos.endLine == pos.line) = true) (hdb : (x == ("__debug__" : Str)) = false := by decide) :
    Ev prog w (hd.heap_39 P) base d env ρ (.Call (.Attribute (.Constant (.str " ") k p6) "join" apos) [.ListComp (.Subscript (.Name "names" p1) (.Name "b" p2) p3) [⟨.Name "b" p4, .Name x p5, [], 0⟩] scope pos'] [] pos) (IsS (.str (wordsD names L))) := by
  refine ev_join (ys := L.map fun b => names.getD b ⟨#[]⟩) ?_ (Nat.le_trans (words_sum hL hL36 hw) (by decide)) hline
  have e : (L.map fun b => names.getD b ⟨#[]⟩).map PyData.str = (natsD L).map fun dd => PyData.str (names.getD (nOf dd) ⟨#[]⟩) := by
    unfold natsD
    rw [List.map_map, List.map_map]
    refine List.map_congr_left fun k _ => ?_
    show _ = PyData.str (names.getD (nOf (natD k)) ⟨#[]⟩)
    rw [nOf_natD]; rfl
  rw [e]
  refine Ev.n_l (CompU.ev (cu_name (fz := false) (it_S (ev_fz hx hdb)) S _ hb (fun C dd hdd => ?_) ?_))
  · obtain ⟨k, hk, rfl⟩ := List.mem_map.mp hdd
    rw [nOf_natD]
    have hk' := hL k hk
    refine ev_item (ds := names.map PyData.str) (k := (k : Int)) (ev_fz (hn _)).s_l (ev_fz rfl).s_w (by omega) (by omega) ?_
    rw [Int.toNat_natCast, List.getElem?_map, List.getElem?_eq_getElem hk', List.getD_eq_getElem?_getD, List.getElem?_eq_getElem hk']; rfl
  · unfold natsD; rw [List.length_map]; omega
end

theorem str36 : ∀ k : Nat, k ≤ 36 → (toString (k : Int) : Str).length ≤ 100 := by decide +kernel

theorem fn_due {prog : Program} {w : World} {base : Heap} {P : Params} {hs : List Host} (G : GoodH hs) :
    Fn prog w (hd.heap_39 P) base 2 150 [.list (hs.map hostD), .list ((namesOf hs).map PyData.str)]
      (.str (dueText (namesOf hs) (lostTo hs.length (aheadH hs) hs.length) (goneTo hs.length (aheadH hs) (lostTo hs.length (aheadH hs) hs.length) hs.length))) := by
  refine fn_intro (fnAt_due P) rfl (by decide) fun d L hdd => ?_
  generalize hE : callEnvC (fdP P 150) L 150 = env
  have k1 : Storable env "n" := by rw [← hE]; exact .inr ⟨rfl, _, rfl⟩
  have k2 : Storable env "ahead" := by rw [← hE]; exact .inr ⟨rfl, _, rfl⟩
  have k3 : Storable env "a" := by rw [← hE]; exact .inr ⟨rfl, _, rfl⟩
  have k4 : Storable env "b" := by rw [← hE]; exact .inr ⟨rfl, _, rfl⟩
  have k5 : Storable env "lost" := by rw [← hE]; exact .inr ⟨rfl, _, rfl⟩
  have k6 : Storable env "gone" := by rw [← hE]; exact .inr ⟨rfl, _, rfl⟩
  have k7 : Storable env "size" := by rw [← hE]; exact .inl rfl
  have k8 : Storable env "bit" := by rw [← hE]; exact .inl rfl
  have k9 : Storable env "turn" := by rw [← hE]; exact .inl rfl
  have k10 : Storable env "ready" := by rw [← hE]; exact .inl rfl
  have k11 : Storable env "needs" := by rw [← hE]; exact .inl rfl
  have k12 : Storable env "words" := by rw [← hE]; exact .inl rfl
  have g1 : env.kindOf "len" = some .globalImplicit := by rw [← hE]; rfl
  have g2 : env.kindOf "range" = some .globalImplicit := by rw [← hE]; rfl
  have g3 : env.kindOf "min" = some .globalImplicit := by rw [← hE]; rfl
  have g4 : env.kindOf "max" = some .globalImplicit := by rw [← hE]; rfl
  have g5 : env.kindOf "sorted" = some .globalImplicit := by rw [← hE]; rfl
  have g6 : env.kindOf "str" = some .globalImplicit := by rw [← hE]; rfl
  have hi : interactive env = false := by rw [← hE]; rfl
  have h6 := G.len
  have hlenH : (hs.map hostD).length = hs.length := List.length_map ..
  refine ex_cons (ex_set (x := "n") (dd := natD hs.length) k1 ?_) ?_
  · rw [show natD hs.length = .int ((hs.map hostD).length : Nat) by rw [hlenH]; rfl]
    exact ev_len rfl g1 (ev_fz rfl).s_l (by rw [hlenH]; omega)
  have ds0 : ∀ m : Nat, ((List.range ((m : Nat) : Int).toNat).map fun i : Nat => PyData.int i) = natsD (List.range m) := fun m => by rw [Int.toNat_natCast]; rfl
  have itr : ∀ {ρ : List (Str × Bnd)} {d : Nat} {e : Env} {x : Str} {p1 p2 p3 : Pos} {m : Nat} {fz : Bool}, ρ.lookup x = some (.fz (natD m)) → m ≤ 6 → e.kindOf "range" = some .globalImplicit → (x == ("__debug__" : Str)) = false →
      EvIt prog w (hd.heap_39 P) base d e ρ (.Call (.Name "range" p1) [.Name x p2] [] p3) (natsD (List.range m)) fz := fun h hm hk hd => by
    rw [← ds0]
    exact it_range (ev_fz h hd).s_w (by omega) (by omega) rfl hk
  refine ex_cons (ex_mat (x := "ahead") (rows := matR hs.length (aheadTo hs 0 0)) k2 ?_ ?_ (by rw [← hE]; rfl)) ?_
  · rw [aheadTo_none]
    rw [show (matR hs.length fun _ _ => false).map PyData.list = (natsD (List.range hs.length)).map fun _ => PyData.list (List.replicate hs.length (PyData.bool false)) by
      unfold matR natsD
      rw [List.map_map, List.map_map]
      refine List.map_congr_left fun i _ => ?_
      show PyData.list ((List.range hs.length).map fun _ => PyData.bool false) = _
      rw [List.map_const', List.length_range]; rfl]
    refine cu_mat (fz := false) (itr rfl h6 g2 (by decide)) (scopeOk rfl rfl (by rw [← hE]; rfl)) (fun dd => [("a", dd)]) _ (fun dd h => by rw [List.eq_of_mem_replicate h]; trivial) (fun C dd _ => asg_name (.inl rfl)) (fun dd _ x hx => by rw [List.mem_singleton.mp hx]; exact .inl rfl)
      (fun C dd hdd' => ?_) (by unfold natsD; rw [List.length_map, List.length_range]; omega)
    exact ev_times (dx := .bool false) (n := (hs.length : Int)) (ev_list (evs_cons ev_bool evs_nilS) (by show 1 ≤ 1000; decide)) (ev_fz rfl).s_w (by omega) (by omega)
  · intro r hr dd hd'
    unfold matR at hr
    obtain ⟨i, _, rfl⟩ := List.mem_map.mp hr
    obtain ⟨j, _, rfl⟩ := List.mem_map.mp hd'
    trivial
  refine ex_cons (ex_for (ds := natsD (List.range hs.length)) (itr rfl h6 g2 (by decide)) (fun dd => [("b", dd)]) (fun b => [("ahead", .mat (matR hs.length (aheadTo hs b 0))), ("n", .fz (natD hs.length)), ("hosts", .fz (.list (hs.map hostD))), ("names", .fz (.list ((namesOf hs).map PyData.str)))])
    (fun dd _ => asg_name k4) (fun dd _ x hx => by rw [List.mem_singleton.mp hx]; exact k4) ?_ fun b dd hdb => ?_) ?_
  · exact sub_cons rfl (sub_cons rfl (sub_cons rfl (sub_cons rfl sub_nil)))
  · obtain ⟨hb, rfl⟩ := nat_at hdb
    refine (ex_cons (ex_for (ds := natsD (List.range b)) (itr rfl (by omega) g2 (by decide)) (fun dd => [("a", dd)]) (fun a => [("ahead", .mat (matR hs.length (aheadTo hs b a))), ("b", .fz (natD b)), ("n", .fz (natD hs.length)), ("hosts", .fz (.list (hs.map hostD))), ("names", .fz (.list ((namesOf hs).map PyData.str)))])
      (fun dd _ => asg_name k3) (fun dd _ x hx => by rw [List.mem_singleton.mp hx]; exact k3) ?_ fun a dd hda => ?_) ex_nil).weak ?_
    · exact sub_cons rfl (sub_cons rfl (sub_cons rfl (sub_cons rfl (sub_cons rfl sub_nil))))
    · obtain ⟨ha, rfl⟩ := nat_at hda
      have hn : hs.length ≤ 6 := h6
      have hAm : hs.getD a ([], 0) ∈ hs := G.at (by omega)
      have hBm : hs.getD b ([], 0) ∈ hs := G.at hb
      have hA := G.lab _ hAm
      have hB := G.lab _ hBm
      have hC := G.code _ hAm
      have hcmp : cmpH hs a b = decide ((hs.getD a ([], 0)).1.take (min (hs.getD a ([], 0)).1.length (hs.getD b ([], 0)).1.length) = (hs.getD b ([], 0)).1.take (min (hs.getD a ([], 0)).1.length (hs.getD b ([], 0)).1.length)) := rfl
      have hbit : bitH hs a b = decide ((hs.getD a ([], 0)).2 / 2 ^ b % 2 = 1) := rfl
      have hp := two_pow6 b (by omega)
      refine ex_cons (ex_set (x := "size") (dd := natD (min (hs.getD a ([], 0)).1.length (hs.getD b ([], 0)).1.length)) k7 ?_) ?_
      · rw [show natD (min (hs.getD a ([], 0)).1.length (hs.getD b ([], 0)).1.length) = .int (min ((((hs.getD a ([], 0)).1.map PyData.str).length : Nat) : Int) ((((hs.getD b ([], 0)).1.map PyData.str).length : Nat) : Int)) by
          rw [List.length_map, List.length_map]; unfold natD; congr 1; omega]
        exact ev_min rfl g3 (ev_len rfl g1 (ev_labels rfl rfl (by omega) hn).s_l (by rw [List.length_map]; omega)).s_w (ev_len rfl g1 (ev_labels rfl rfl hb hn).s_l (by rw [List.length_map]; omega)).s_w
      have hAl := hA.2
      have hBl := hB.2
      have eqvAB := eqv_strl ((hs.getD a ([], 0)).1.take (min (hs.getD a ([], 0)).1.length (hs.getD b ([], 0)).1.length)) ((hs.getD b ([], 0)).1.take (min (hs.getD a ([], 0)).1.length (hs.getD b ([], 0)).1.length))
      rw [← hcmp] at eqvAB
      refine (ex_cons (ex_if (b := cmpH hs a b) (o := .next [("ahead", .mat (matR hs.length (aheadTo hs b (a + 1)))), ("b", .fz (natD b)), ("n", .fz (natD hs.length)), ("hosts", .fz (.list (hs.map hostD))), ("names", .fz (.list ((namesOf hs).map PyData.str)))])
        ?_ (fun hc => ?_) (fun hc => ?_)) ex_nil)
      · rw [← eqvAB, List.map_take, List.map_take]
        refine tst_cmp ?_ ?_ (cmp_eq ?_ ?_) (good_W _)
        · exact (ev_takeN (ev_labels rfl rfl (by omega) hn).s_l (ev_fz rfl).s_w (by rw [List.length_map]; omega)).n_w
        · exact (ev_takeN (ev_labels rfl rfl hb hn).s_l (ev_fz rfl).s_w (by rw [List.length_map]; omega)).n_w
        · rw [← List.map_take]; exact (ok_labels fun l hl => hA.1 l (List.mem_of_mem_take hl)).more (by decide)
        · rw [← List.map_take]; exact (ok_labels fun l hl => hB.1 l (List.mem_of_mem_take hl)).more (by decide)
      · refine ex_cons (ex_set (x := "bit") (dd := .int ((hs.getD a ([], 0)).2 / 2 ^ b % 2)) k8 (ev_mod (ev_div (ev_code rfl rfl (by omega) hn).s_w (ev_powN ev_int.s_w (ev_fz rfl).s_w (by omega) (by decide)).s_w hp.2 hC.1 hC.2 hp.1).s_w ev_int.s_w (by decide))) ?_
        have h01 : (hs.getD a ([], 0)).2 / 2 ^ b % 2 = 0 ∨ (hs.getD a ([], 0)).2 / 2 ^ b % 2 = 1 := by omega
        generalize (hs.getD a ([], 0)).2 / 2 ^ b % 2 = bit at *
        have hna : a < hs.length := by omega
        refine ex_cons (ex_mset (x := "ahead") (rows := matR hs.length (aheadTo hs b a)) (a := (a : Int)) (b := (b : Int)) (row := (List.range hs.length).map fun j => PyData.bool (aheadTo hs b a a j)) (dd := .bool (bitH hs a b)) rfl (ev_fz rfl).s_w (ev_fz rfl).s_w
          (by omega) (by omega) (by omega) (by omega) (by rw [Int.toNat_natCast]; exact matR_row hna) (by rw [Int.toNat_natCast, List.length_map, List.length_range]; exact hb) ?_ trivial) ?_
        · rw [hbit]
          exact ev_cmp (ev_fz rfl).s_w ev_int.s_w (cmp_eq (x := .int bit) (y := .int 1) (ok_int _) (ok_int _)) (good_W _)
        rw [Int.toNat_natCast, Int.toNat_natCast, matR_set]
        refine (ex_cons (ex_mset (x := "ahead") (rows := matR hs.length _) (a := (b : Int)) (b := (a : Int)) (row := (List.range hs.length).map fun j => PyData.bool _) (dd := .bool (!bitH hs a b)) rfl (ev_fz rfl).s_w (ev_fz rfl).s_w
          (by omega) (by omega) (by omega) (by omega) (by rw [Int.toNat_natCast]; exact matR_row hb) (by rw [Int.toNat_natCast, List.length_map, List.length_range]; exact hna) ?_ trivial) ex_nil).weak ?_
        · have e : (!bitH hs a b) = PyData.eqv (.int bit) (.int 0) := by
            rw [hbit]
            show _ = (bit == 0)
            rcases h01 with h | h <;> rw [h] <;> rfl
          rw [e]
          exact ev_cmp (ev_fz rfl).s_w ev_int.s_w (cmp_eq (x := .int bit) (y := .int 0) (ok_int _) (ok_int _)) (good_W _)
        · rw [Int.toNat_natCast, Int.toNat_natCast, matR_set, aheadTo_yes hs hs.length a b ha hc]
          exact sub_cons rfl (sub_cons rfl (sub_cons rfl (sub_cons rfl (sub_cons rfl sub_nil))))
      · rw [aheadTo_no hs hs.length a b ha hc]
        exact ex_nil.weak (sub_cons rfl (sub_cons rfl (sub_cons rfl (sub_cons rfl (sub_cons rfl sub_nil)))))
    · rw [← aheadTo_next]
      refine sub_cons ?_ (sub_cons rfl (sub_cons rfl (sub_cons rfl sub_nil)))
      unfold natsD
      rw [List.length_map, List.length_range]; rfl
  have hlr : ∀ m : Nat, (natsD (List.range m)).length = m := fun m => by unfold natsD; rw [List.length_map, List.length_range]
  rw [hlr, aheadTo_all]
  have hnames : (namesOf hs).length = hs.length := List.length_map ..
  generalize aheadH hs = f
  refine ex_freezeM (x := "ahead") (rows := matR hs.length f) rfl ?_
  refine ex_cons (ex_new (x := "lost") (ds := []) k5 (ev_list evs_nilS (by decide)) (fun _ m => (nomatch m))) ?_
  refine ex_cons (ex_for (ds := natsD (List.range hs.length)) (itr rfl h6 g2 (by decide)) (fun dd => [("a", dd)]) (fun a => [("lost", .own (natsD ((List.range a).filter (tri hs.length f)))), ("ahead", .fz (matD hs.length f)), ("n", .fz (natD hs.length)), ("names", .fz (.list ((namesOf hs).map PyData.str)))])
    (fun dd _ => asg_name k3) (fun dd _ x hx => by rw [List.mem_singleton.mp hx]; exact k3) ?_ fun a dd hda => ?_) ?_
  · exact sub_cons rfl (sub_cons rfl (sub_cons rfl (sub_cons rfl sub_nil)))
  · obtain ⟨ha, rfl⟩ := nat_at hda
    have hn : hs.length ≤ 6 := h6
    have e0 : (List.range (a + 1)).filter (tri hs.length f) = (List.range a).filter (tri hs.length f) ++ (if tri hs.length f a then [a] else []) := by
      rw [List.range_succ, List.filter_append]
      congr 1
      cases h : tri hs.length f a <;> simp [List.filter, h]
    refine (ex_cons (ex_if (b := tri hs.length f a) (o := .next [("lost", .own (natsD ((List.range (a + 1)).filter (tri hs.length f)))), ("ahead", .fz (matD hs.length f)), ("n", .fz (natD hs.length)), ("names", .fz (.list ((namesOf hs).map PyData.str)))])
        ?_ (fun hc => ?_) (fun hc => ?_)) ex_nil)
    · have e1 : tri hs.length f a = !PyData.eqv (.list (natsD (((List.range hs.length).filter (f a)).flatMap fun b => (List.range hs.length).filter fun c => f b c && f c a))) (.list []) := by
        rw [eqv_nil, natsD_empty]; rfl
      rw [e1]
      refine tst_cmp (Ev.n_w (CompU.ev ?_)) (ev_list evs_nilS (by decide)).n_w (cmp_ne ((ok_nats _).more (by decide)) ((ok_nats []).more (by decide))) (good_W _)
      rw [← tri_list]
      refine cu_two (fz := false) (itr rfl h6 g2 (by decide)) (scopeOk rfl rfl (by rw [← hE]; rfl)) (fun d => [("b", d)]) _ (fun _ d2 => [("c", d2)]) _ _ (fun C d _ => asg_name (.inl rfl)) (fun d _ x hx => by rw [List.mem_singleton.mp hx]; exact .inl rfl)
        (fun C d hd' => ?_) (fun C d hd' _ => itr rfl h6 rfl (by decide)) (fun C d _ _ d2 _ => asg_name (.inl rfl)) (fun d _ d2 _ x hx => by rw [List.mem_singleton.mp hx]; exact ⟨.inl rfl, rfl⟩) (fun C d hd' _ d2 hd2 => ?_) (fun C d _ _ d2 _ _ => ev_fz rfl)
        (by rw [hlr]; omega) (fun d _ => by rw [hlr]; omega)
      · obtain ⟨b, hb, rfl⟩ := List.mem_map.mp hd'
        have hb' := List.mem_range.mp hb
        refine tsts_one (tst_plain ?_)
        rw [nOf_natD]
        exact (ev_at rfl rfl rfl ha hb' hn).s_w
      · obtain ⟨b, hb, rfl⟩ := List.mem_map.mp hd'
        have hb' := List.mem_range.mp hb
        obtain ⟨c, hc, rfl⟩ := List.mem_map.mp hd2
        have hc' := List.mem_range.mp hc
        rw [nOf_natD, nOf_natD]
        exact tsts_one (tst_and (tst_plain (ev_at rfl rfl rfl hb' hc' hn).s_w) fun _ => tst_plain (ev_at rfl rfl rfl hc' ha hn).s_w)
    · rw [e0, hc]
      refine (ex_cons (ex_append (x := "lost") (ds := natsD ((List.range a).filter (tri hs.length f))) (dd := natD a) rfl (ev_fz rfl) ?_ hi rfl rfl rfl) ex_nil).weak (sub_cons ?_ (sub_cons rfl (sub_cons rfl (sub_cons rfl sub_nil))))
      · unfold natsD
        rw [List.length_map]
        exact Nat.le_trans (List.length_filter_le _ _) (by rw [List.length_range]; omega)
      · unfold natsD
        rw [if_pos rfl, List.map_append]; rfl
    · rw [e0, hc]
      simp only [Bool.false_eq_true, if_false, List.append_nil]
      exact ex_nil.weak (sub_cons rfl (sub_cons rfl (sub_cons rfl (sub_cons rfl sub_nil))))
  rw [hlr]
  refine ex_freeze (x := "lost") (ds := natsD (lost0 hs.length f)) rfl ?_
  refine ex_cons (ex_for (ds := natsD (List.range hs.length)) (itr rfl h6 g2 (by decide)) (fun dd => [("turn", dd)]) (fun t => [("lost", .fz (.list (natsD (lostTo hs.length f t)))), ("ahead", .fz (matD hs.length f)), ("n", .fz (natD hs.length)), ("names", .fz (.list ((namesOf hs).map PyData.str)))])
    (fun dd _ => asg_name k9) (fun dd _ x hx => by rw [List.mem_singleton.mp hx]; exact k9) ?_ fun t dd hdt => ?_) ?_
  · exact sub_cons rfl (sub_cons rfl (sub_cons rfl (sub_cons rfl sub_nil)))
  · refine (ex_cons (ex_set (x := "lost") (dd := .list (natsD (lostTo hs.length f (t + 1)))) k5 ?_ (by rw [← hE]; rfl)) ex_nil).weak (sub_cons rfl (sub_cons rfl (sub_cons rfl (sub_cons rfl sub_nil))))
    refine Ev.n_s (CompU.ev ?_)
    show CompU _ _ _ _ _ _ _ _ _ _ _ (natsD (lostStep hs.length f (lostTo hs.length f t)))
    have hlt : ∀ k ∈ lostTo hs.length f t, k < hs.length := lostTo_lt hs.length f t
    have hll : (lostTo hs.length f t).length ≤ hs.length := lostTo_len hs.length f t
    generalize lostTo hs.length f t = L at *
    rw [← lost_list]
    refine cu_one (fz := false) (itr rfl h6 g2 (by decide)) (scopeOk rfl rfl (by rw [← hE]; rfl)) (fun d => [("b", d)]) _ _ (fun C d _ => asg_name (cEnv_storable (scopeOk rfl rfl (by rw [← hE]; rfl)) (.inr rfl)).1) (fun d _ x hx => by rw [List.mem_singleton.mp hx]; exact .inr rfl)
      (fun C d hd' => ?_) (fun C d _ _ => ev_fz rfl) (by rw [hlr]; omega)
    obtain ⟨b, hb, rfl⟩ := List.mem_map.mp hd'
    have hb' := List.mem_range.mp hb
    rw [nOf_natD]
    refine tsts_one (tst_or (tst_cmp (ev_fz rfl).s_w (ev_fz rfl).s_w (any_nat L b ▸ cmp_in (ok_int _) ((ok_nats _).more (by decide))) (good_W _)) fun _ => ?_)
    have e1 : (!(L.filter fun a => f a b).isEmpty) = !PyData.eqv (.list (natsD (L.filter fun a => f a b))) (.list []) := by
      rw [eqv_nil, natsD_empty]
    rw [e1]
    refine tst_cmp (Ev.n_w (CompU.ev ?_)) (ev_list evs_nilS (by decide)).n_w (cmp_ne ((ok_nats _).more (by decide)) ((ok_nats []).more (by decide))) (good_W _)
    have e2 : natsD (L.filter fun a => f a b) = ((natsD L).filter fun d => f (nOf d) b).map fun d => d := by
      rw [List.map_id', filter_natsD]
      simp only [nOf_natD]
    rw [e2]
    refine cu_one (fz := false) (it_S (ev_fz rfl)) (scopeOk rfl rfl (by rw [← hE]; rfl)) (fun d => [("a", d)]) _ _ (fun C d _ => asg_name (.inl rfl)) (fun d _ x hx => by rw [List.mem_singleton.mp hx]; exact .inl rfl)
      (fun C d hd2 => ?_) (fun C d _ _ => ev_fz rfl) ?_
    · obtain ⟨a, ha, rfl⟩ := List.mem_map.mp hd2
      rw [nOf_natD]
      exact tsts_one (tst_plain (ev_at rfl rfl rfl (hlt a ha) hb' h6).s_w)
    · unfold natsD; rw [List.length_map]; omega
  rw [hlr]
  have hl1 := lostTo_lt hs.length f hs.length
  have hl2 := lostTo_len hs.length f hs.length
  generalize lostTo hs.length f hs.length = lost at *
  refine ex_cons (ex_set (x := "gone") (dd := .list (natsD [])) k6 (ev_list evs_nilS (by decide)).n_s) ?_
  refine ex_cons (ex_for (ds := natsD (List.range hs.length)) (itr rfl h6 g2 (by decide)) (fun dd => [("turn", dd)]) (fun t => [("gone", .fz (.list (natsD (goneTo hs.length f lost t)))), ("lost", .fz (.list (natsD lost))), ("ahead", .fz (matD hs.length f)), ("n", .fz (natD hs.length)), ("names", .fz (.list ((namesOf hs).map PyData.str)))])
    (fun dd _ => asg_name k9) (fun dd _ x hx => by rw [List.mem_singleton.mp hx]; exact k9) ?_ fun t dd hdt => ?_) ?_
  · exact sub_cons rfl (sub_cons rfl (sub_cons rfl (sub_cons rfl (sub_cons rfl sub_nil))))
  · have hgl := goneTo_len hs.length f lost t
    have hgt := goneTo_lt hs.length f lost t
    have ht : t < hs.length := (nat_at hdt).1
    have hgs : goneTo hs.length f lost (t + 1) = goneTo hs.length f lost t ++ (sortP (readyD hs.length f lost (goneTo hs.length f lost t) hs.length)).map Prod.snd := rfl
    have hg36 : (goneTo hs.length f lost t).length ≤ 36 := Nat.le_trans hgl (Nat.le_trans (Nat.mul_le_mul (show t ≤ 6 by omega) h6) (by decide))
    generalize goneTo hs.length f lost t = gone at *
    refine ex_cons (ex_new (x := "ready") (ds := []) k10 (ev_list evs_nilS (by decide)) (fun _ m => (nomatch m))) ?_
    refine ex_cons (ex_for (ds := natsD (List.range hs.length)) (itr rfl h6 g2 (by decide)) (fun dd => [("b", dd)]) (fun b => [("ready", .own ((readyD hs.length f lost gone b).map readyPD)), ("gone", .fz (.list (natsD gone))), ("lost", .fz (.list (natsD lost))), ("ahead", .fz (matD hs.length f)), ("n", .fz (natD hs.length)), ("names", .fz (.list ((namesOf hs).map PyData.str)))])
      (fun dd _ => asg_name k4) (fun dd _ x hx => by rw [List.mem_singleton.mp hx]; exact k4) ?_ fun b dd hdb => ?_) ?_
    · exact sub_cons rfl (sub_cons rfl (sub_cons rfl (sub_cons rfl (sub_cons rfl (sub_cons rfl sub_nil)))))
    · obtain ⟨hb, rfl⟩ := nat_at hdb
      have hsucc := readyD_succ hs.length f lost gone b
      have hrl := readyD_len hs.length f lost gone b
      have hrb : readyB hs.length f lost gone b = (!decide (b ∈ lost) && !decide (b ∈ gone) && !decide (hs.length ∈ needsD hs.length f gone b)) := by
        unfold readyB; simp
      rw [hsucc]
      generalize readyD hs.length f lost gone b = R at *
      have same : readyB hs.length f lost gone b = false → ∀ x c, List.lookup x [(("ready" : Str), Bnd.own ((R ++ (if readyB hs.length f lost gone b then [(keyD (needsD hs.length f gone b), b)] else [])).map readyPD)), ("gone", .fz (.list (natsD gone))), ("lost", .fz (.list (natsD lost))), ("ahead", .fz (matD hs.length f)), ("n", .fz (natD hs.length)), ("names", .fz (.list ((namesOf hs).map PyData.str)))] = some c →
          List.lookup x [(("ready" : Str), Bnd.own (R.map readyPD)), ("gone", .fz (.list (natsD gone))), ("lost", .fz (.list (natsD lost))), ("ahead", .fz (matD hs.length f)), ("n", .fz (natD hs.length)), ("names", .fz (.list ((namesOf hs).map PyData.str)))] = some c := fun h => by
        rw [h]; simp only [Bool.false_eq_true, if_false, List.append_nil]; exact fun _ _ e => e
      refine ex_cons (ex_if (b := !decide (b ∈ lost) && !decide (b ∈ gone)) (o := .next _) (tst_and (tst_cmp (ev_fz rfl).s_w (ev_fz rfl).s_w (any_nat lost b ▸ cmp_notin (ok_int _) ((ok_nats _).more (by decide))) (good_W _)) fun _ => tst_cmp (ev_fz rfl).s_w (ev_fz rfl).s_w (any_nat gone b ▸ cmp_notin (ok_int _) ((ok_nats _).more (by decide))) (good_W _)) (fun hc => ?_) (fun hc => ?_)) ex_nil
      · rw [hc, Bool.true_and] at hrb
        have e1 : natsD (needsD hs.length f gone b) = ((natsD (List.range hs.length)).filter fun d => f (nOf d) b).map fun d => if decide (nOf d ∈ gone) then natD (gone.idxOf (nOf d)) else natD hs.length := by
          rw [filter_natsD]
          unfold natsD needsD
          rw [List.map_map, List.map_map]
          simp only [nOf_natD]
          refine List.map_congr_left fun k _ => ?_
          show natD (if k ∈ gone then gone.idxOf k else hs.length) = (if decide (nOf (natD k) ∈ gone) then natD (gone.idxOf (nOf (natD k))) else natD hs.length)
          rw [nOf_natD]
          by_cases h : k ∈ gone
          · rw [if_pos h, decide_eq_true h, if_pos rfl]
          · rw [if_neg h, decide_eq_false h, if_neg (by decide)]
        have hnl : (needsD hs.length f gone b).length ≤ 6 := by
          unfold needsD
          rw [List.length_map]
          exact Nat.le_trans (List.length_filter_le _ _) (by rw [List.length_range]; exact h6)
        refine ex_cons (ex_comp (x := "needs") (ds := natsD (needsD hs.length f gone b)) k11 ?_ (by rw [← hE]; rfl)) ?_
        · rw [e1]
          refine cu_one (fz := false) (itr rfl h6 g2 (by decide)) (scopeOk rfl rfl (by rw [← hE]; rfl)) (fun d => [("a", d)]) _ _ (fun C d _ => asg_name (.inl rfl)) (fun d _ x hx => by rw [List.mem_singleton.mp hx]; exact .inl rfl)
            (fun C d hd' => ?_) (fun C d hd' _ => ?_) (by rw [hlr]; omega)
          · obtain ⟨a, ha, rfl⟩ := List.mem_map.mp hd'
            have ha' := List.mem_range.mp ha
            rw [nOf_natD]
            exact tsts_one (tst_plain (ev_at rfl rfl rfl ha' hb h6).s_w)
          · obtain ⟨a, ha, rfl⟩ := List.mem_map.mp hd'
            have ha' := List.mem_range.mp ha
            rw [nOf_natD]
            refine ev_ife (tst_cmp (ev_fz rfl).s_w (ev_fz rfl).s_w (any_nat gone a ▸ cmp_in (ok_int _) ((ok_nats _).more (by decide))) (good_W _)) (fun hm => ?_) (fun _ => ev_fz rfl)
            have hj := List.idxOf_lt_length_of_mem (of_decide_eq_true hm)
            have hlen : (natsD gone).length = gone.length := List.length_map ..
            refine ev_index (ds := natsD gone) (dx := natD a) (j := gone.idxOf a) (ev_fz rfl).s_l (ev_fz rfl).s_w ((ok_nats _).more (by decide)) (ok_int _) (by rw [hlen]; exact hj) (by rw [hlen]; omega) ?_ (fun m hm1 hm2 => ?_) rfl
            · exact idx_hit gone a _
            · exact idx_before gone a m _ hm2
        refine (ex_cons (ex_if (b := !decide (hs.length ∈ needsD hs.length f gone b)) (o := .next _) (tst_cmp (ev_fz rfl).s_w (ev_fz rfl).s_w (any_nat (needsD hs.length f gone b) hs.length ▸ cmp_notin (ok_int _) ((ok_nats _).more (by decide))) (good_W _)) (fun hc2 => ?_) (fun hc2 => ?_)) ex_nil)
        · rw [hc2] at hrb
          have e2 : ((-1 : Int) :: (needsD hs.length f gone b).map fun k : Nat => (k : Int)).map PyData.int = [PyData.int (-1)] ++ natsD (needsD hs.length f gone b) := by
            unfold natsD
            rw [List.map_cons, List.map_map]; rfl
          have e3 : (natsD (needsD hs.length f gone b)).length ≤ 6 := by unfold natsD; rw [List.length_map]; exact hnl
          refine (ex_cons (ex_append (x := "ready") (ds := R.map readyPD) (dd := readyPD (keyD (needsD hs.length f gone b), b)) rfl
            (ev_tuple (evs_cons (ev_max (ns := (-1 : Int) :: (needsD hs.length f gone b).map fun k : Nat => (k : Int)) rfl g4 (e2 ▸ (ev_cat (ev_list (evs_cons (ev_neg ev_int.s_w) evs_nilS) (by show 1 ≤ 1000; decide)).n_l (ev_fz rfl).s_l (by show 1 + _ ≤ _; omega)).n_l) (by simp)) (evs_cons (ev_fz rfl) evs_nilS)) (by show 2 ≤ 1000; decide))
            (by rw [List.length_map]; omega) hi rfl rfl rfl) ex_nil).weak (sub_cons ?_ (sub_cons rfl (sub_cons rfl (sub_cons rfl (sub_cons rfl (sub_cons rfl sub_nil))))))
          rw [hrb, if_pos rfl, List.map_append]; rfl
        · rw [hc2] at hrb
          exact ex_nil.weak (fun x c e => by have := same hrb x c e; exact (sub_cons rfl (sub_cons rfl (sub_cons rfl (sub_cons rfl (sub_cons rfl (sub_cons rfl sub_nil)))))) x c this)
      · rw [hc, Bool.false_and] at hrb
        exact ex_nil.weak (fun x c e => by have := same hrb x c e; exact (sub_cons rfl (sub_cons rfl (sub_cons rfl (sub_cons rfl (sub_cons rfl (sub_cons rfl sub_nil)))))) x c this)
    rw [hlr]
    have hrl := readyD_len hs.length f lost gone hs.length
    have hrn := readyD_nodup hs.length f lost gone hs.length
    generalize readyD hs.length f lost gone hs.length = R at *
    have hpd : R.map readyPD = (R.map fun p => (p.1, (p.2 : Int))).map pairD := by rw [List.map_map]; rfl
    have hsort := sortP_sorted R hrn
    have hperm := sortP_perm R
    have hsl := sortP_len R
    refine (ex_cons (ex_set (x := "gone") (dd := .list (natsD (goneTo hs.length f lost (t + 1)))) k6 ?_) ex_nil).weak (sub_cons rfl (sub_cons rfl (sub_cons rfl (sub_cons rfl (sub_cons rfl sub_nil)))))
    rw [hgs]
    generalize sortP R = S at *
    have e4 : natsD (gone ++ S.map Prod.snd) = natsD gone ++ ((S.map fun p => (p.1, (p.2 : Int))).map pairD).map at1 := by
      unfold natsD
      rw [List.map_append, List.map_map, List.map_map, List.map_map]; rfl
    rw [e4]
    refine Ev.n_s (ev_cat (ev_fz rfl).s_l ?_ ?_)
    refine Ev.n_l (CompU.ev (cu_name (fz := false) (it_S ?_) (scopeOk rfl rfl rfl) at1 rfl (fun C d hd' => ?_) ?_))
    refine @ev_sorted prog w (hd.heap_39 P) base (d + 1) env _ _ _ _ (R.map fun p => (p.1, (p.2 : Int))) (S.map fun p => (p.1, (p.2 : Int))) ?_ ?_ ?_ ?_ ?_ ?_ ?_
    · exact rfl
    · exact g5
    · rw [← hpd]; exact ev_own rfl
    · exact hperm.map _
    · exact List.Pairwise.map _ (fun p q h => by
        show p.1 < q.1 ∨ (p.1 = q.1 ∧ (p.2 : Int) < q.2)
        have h' : p.1 < q.1 ∨ (p.1 = q.1 ∧ p.2 < q.2) := h
        omega) hsort
    · rw [List.length_map]; omega
    · rfl
    · obtain ⟨p, hp, rfl⟩ := List.mem_map.mp hd'
      exact ev_tupitem (ds := [.int p.1, .int p.2]) (k := 1) (ev_fz rfl) ev_int.s_w (by decide) (by decide) rfl
    · rw [List.length_map, List.length_map]; omega
    · rw [List.length_map, List.length_map, List.length_map]
      have : (natsD gone).length = gone.length := List.length_map ..
      omega
  rw [hlr]
  have hgl := goneTo_len hs.length f lost hs.length
  have hgt := goneTo_lt hs.length f lost hs.length
  have hg36 : (goneTo hs.length f lost hs.length).length ≤ 36 := Nat.le_trans hgl (Nat.le_trans (Nat.mul_le_mul h6 h6) (by decide))
  generalize goneTo hs.length f lost hs.length = gone at *
  have hw : ∀ nm ∈ namesOf hs, nm.length ≤ 124 := fun nm hnm => by
    obtain ⟨h, hh, rfl⟩ := List.mem_map.mp hnm
    have := G.lab h hh
    exact Nat.le_trans (hj_len _ h.1 rfl this.1) (by omega)
  generalize namesOf hs = names at *
  have wl1 := words_len (names := names) (L := gone) (fun k hk => by have := hgt k hk; omega) hg36 hw
  have wl2 := words_len (names := names) (L := lost) (fun k hk => by have := hl1 k hk; omega) (by omega) hw
  refine ex_cons (ex_set (x := "words") (dd := .str (wordsD names gone)) k12 (ev_words rfl (scopeOk rfl rfl (by rw [← hE]; rfl)) rfl (fun _ => rfl) (fun k hk => by have := hgt k hk; omega) hg36 (by omega) hw rfl)) ?_
  unfold dueText
  have tst : ∀ {ρ : List (Str × Bnd)} {d : Nat} {env : Env} {p1 p2 p3 : Pos} {b : Bool}, ρ.lookup ("lost" : Str) = some (Bnd.fz (.list (natsD lost))) → decide (lost = []) = b → Tst prog w (hd.heap_39 P) base d env ρ (.Compare (.Name "lost" p1) [.Eq] [.List [] p2] p3) b := fun h e => by
    have e0 : decide (lost = []) = lost.isEmpty := by cases lost <;> simp
    rw [← e, e0, ← natsD_empty, ← eqv_nil]
    exact tst_cmp (ev_fz h).s_w (ev_list evs_nilS (by decide)).n_w (cmp_eq ((ok_nats _).more (by decide)) ((ok_nats []).more (by decide))) (good_W _)
  by_cases hl : lost = []
  · rw [if_pos hl]
    exact ex_stop (ex_if (b := true) (tst rfl (decide_eq_true hl)) (fun _ => ex_stop (ex_return (ev_fz rfl))) (fun h => by cases h))
  · rw [if_neg hl]
    refine ex_cons (ex_if (b := false) (tst rfl (decide_eq_false hl)) (fun h => by cases h) (fun _ => ex_nil)) ?_
    have hg3 : (toString (gone.length : Int) : Str).length ≤ 100 := str36 _ hg36
    have a1 : (" (" : Str).length = 2 := by decide
    have a2 : (", line " : Str).length = 7 := by decide
    have a3 : (")" : Str).length = 1 := by decide
    refine ex_stop (ex_return ?_)
    have hgl2 : (natsD gone).length = gone.length := List.length_map ..
    generalize hu : (toString (gone.length : Int) : Str) = u at *
    refine ev_addstr (Ev.s_w (ev_addstr (Ev.s_w (ev_addstr (Ev.s_w (ev_addstr (Ev.s_w (ev_addstr (Ev.s_w ?_) (Ev.s_w ev_str) ?_)) (Ev.s_w (ev_fz rfl)) ?_)) (Ev.s_w ev_str) ?_)) (Ev.s_w ?_) ?_)) (Ev.s_w ev_str) ?_
    · exact ev_words rfl (scopeOk rfl rfl (by rw [← hE]; rfl)) rfl (fun _ => rfl) (fun k hk => by have := hl1 k hk; omega) (by omega) (by omega) hw rfl
    · omega
    · simp only [PySem.Str.length_append]; omega
    · simp only [PySem.Str.length_append]; omega
    · rw [← hu, ← hgl2]
      refine ev_str_of rfl g6 (Ev.s_w (ev_len rfl g1 (ev_fz rfl).s_l (by omega))) ?_
      rw [hgl2]
      rcases Nat.eq_zero_or_pos gone.length with h | h
      · rw [h]; decide
      · exact (Nat.log2_lt (by omega)).mpr (Nat.lt_of_le_of_lt (m := 36) (by omega) (by decide +kernel))
    · simp only [PySem.Str.length_append]; omega
    · simp only [PySem.Str.length_append]; omega
end Mine
end

section
open PySem PySem.W PyProof.Rows PySem.Calls
namespace Mine

/-! the queue of _law_line -/
noncomputable def waits0 (n : Nat) (ps : List (Nat × Nat)) : List Int := (List.range n).map fun k => ((ps.filter fun p => decide (p.2 = k)).length : Int)
noncomputable def push0 (ws : List Int) (m : Nat) : List Nat := (List.range m).filter fun k => decide (ws.getD k 0 = 0)
noncomputable abbrev LSt := List Int × List Nat × List Nat
/-- the walk over k, g having gone -/
noncomputable def inn (ps : List (Nat × Nat)) (g : Nat) : Nat → List Int × List Nat → List Int × List Nat
  | 0, s => s
  | k + 1, s => let r := inn ps g k s
    if (g, k) ∈ ps then (r.1.set k (r.1.getD k 0 - 1), if r.1.getD k 0 - 1 = 0 then r.2 ++ [k] else r.2) else r
noncomputable def lineStep (n : Nat) (ps : List (Nat × Nat)) (s : LSt) : LSt := match s.2.1 with
  | [] => s
  | g :: Q => ((inn ps g n (s.1, Q)).1, (inn ps g n (s.1, Q)).2, s.2.2 ++ [g])
noncomputable def lineTo (n : Nat) (ps : List (Nat × Nat)) : Nat → LSt
  | 0 => (waits0 n ps, push0 (waits0 n ps) n, [])
  | t + 1 => lineStep n ps (lineTo n ps t)

/-! counting -/
noncomputable def cnt (n : Nat) (f : Nat → Nat → Bool) (gone : List Nat) (k : Nat) : Nat := ((List.range n).filter fun a => f a k && !gone.contains a).length
theorem cnt_zero {n : Nat} {f : Nat → Nat → Bool} {gone : List Nat} {k : Nat} : cnt n f gone k = 0 ↔ ∀ a < n, f a k = true → a ∈ gone := by
  unfold cnt
  rw [List.length_eq_zero_iff, List.filter_eq_nil_iff]
  constructor
  · intro h a ha hf
    have := h a (List.mem_range.mpr ha)
    rw [hf, Bool.true_and] at this
    simpa using this
  · intro h a ha q
    rw [Bool.and_eq_true] at q
    have := h a (List.mem_range.mp ha) q.1
    have q2 := q.2
    simp [this] at q2
theorem filter_drop_one {g : Nat} {p : Nat → Bool} : ∀ l : List Nat, l.Nodup → g ∈ l → p g = true → (l.filter p).length = (l.filter fun a => p a && a != g).length + 1
  | [], _, h, _ => nomatch h
  | x :: xs, hn, hm, hp => by
    have h1 := List.nodup_cons.mp hn
    by_cases e : x = g
    · subst e
      have e2 : xs.filter (fun a => p a && a != x) = xs.filter p := List.filter_congr fun a ha => by
        have : a ≠ x := fun q => h1.1 (q ▸ ha)
        simp [this]
      rw [List.filter_cons_of_pos hp, List.filter_cons_of_neg (by simp), e2]; rfl
    · have hm' : g ∈ xs := (List.mem_cons.mp hm).resolve_left fun q => e q.symm
      have ih := filter_drop_one xs h1.2 hm' hp
      cases q : p x with
      | true =>
        rw [List.filter_cons_of_pos q, List.filter_cons_of_pos (by simp [q, e]), List.length_cons, List.length_cons, ih]
      | false =>
        rw [List.filter_cons_of_neg (by simp [q]), List.filter_cons_of_neg (by simp [q]), ih]
theorem cnt_step {n : Nat} {f : Nat → Nat → Bool} {gone : List Nat} {k g : Nat} (hg : g < n) (hn : g ∉ gone) : cnt n f gone k = cnt n f (gone ++ [g]) k + (if f g k = true then 1 else 0) := by
  unfold cnt
  have e : ∀ a, (f a k && !(gone ++ [g]).contains a) = ((f a k && !gone.contains a) && a != g) := fun a => by
    rw [Bool.eq_iff_iff]
    simp only [Bool.and_eq_true, Bool.not_eq_true', List.contains_eq_mem, List.mem_append, List.mem_singleton, bne_iff_ne, ne_eq, decide_eq_false_iff_not, not_or]
    exact ⟨fun ⟨a, b, c⟩ => ⟨⟨a, b⟩, c⟩, fun ⟨⟨a, b⟩, c⟩ => ⟨a, b, c⟩⟩
  simp only [e]
  by_cases h : f g k = true
  · rw [if_pos h]
    exact filter_drop_one (p := fun a => f a k && !gone.contains a) _ List.nodup_range (List.mem_range.mpr hg) (by simp [h, hn])
  · rw [if_neg h, Nat.add_zero]
    congr 1
    refine List.filter_congr fun a _ => ?_
    by_cases q : a = g
    · subst q
      have : f a k = false := by simpa using h
      rw [this]; rfl
    · simp [q]

/-! keys -/
theorem maxI_lt (l : List Int) (m : Int) (hm : 0 ≤ m) : maxI (-1 :: l) < m ↔ ∀ k ∈ l, k < m := by
  show l.foldl max (-1) < m ↔ _
  have h1 := maxI_ge l (-1)
  have h2 := maxI_mem l (-1)
  constructor
  · intro h k hk
    have := h1.2 k hk
    omega
  · intro h
    rcases h2 with q | q
    · rw [q]; omega
    · exact h _ q
theorem maxI_eq (l : List Int) (m : Int) (hmem : m ∈ l) (hm : 0 ≤ m) (hle : ∀ k ∈ l, k ≤ m) : maxI (-1 :: l) = m := by
  show l.foldl max (-1) = m
  have h1 := (maxI_ge l (-1)).2 m hmem
  rcases maxI_mem l (-1) with q | q
  · omega
  · have := hle _ q
    omega
noncomputable def keyO (n : Nat) (f : Nat → Nat → Bool) (O : List Nat) (x : Nat) : Int := keyD (needsD n f O x)
theorem mem_needs {n : Nat} {f : Nat → Nat → Bool} {O : List Nat} {x j : Nat} : j ∈ needsD n f O x ↔ ∃ a, a < n ∧ f a x = true ∧ j = (if a ∈ O then O.idxOf a else n) := by
  unfold needsD
  rw [List.mem_map]
  constructor
  · rintro ⟨a, ha, rfl⟩
    obtain ⟨h1, h2⟩ := List.mem_filter.mp ha
    exact ⟨a, List.mem_range.mp h1, h2, rfl⟩
  · rintro ⟨a, h1, h2, rfl⟩
    exact ⟨a, List.mem_filter.mpr ⟨List.mem_range.mpr h1, h2⟩, rfl⟩
theorem keyO_lt {n : Nat} {f : Nat → Nat → Bool} {O : List Nat} {x m : Nat} : keyO n f O x < (m : Int) ↔ ∀ a < n, f a x = true → (if a ∈ O then O.idxOf a else n) < m := by
  unfold keyO keyD
  rw [maxI_lt _ _ (by omega)]
  constructor
  · intro h a ha hf
    have := h _ (List.mem_map.mpr ⟨_, mem_needs.mpr ⟨a, ha, hf, rfl⟩, rfl⟩)
    omega
  · intro h k hk
    obtain ⟨j, hj, rfl⟩ := List.mem_map.mp hk
    obtain ⟨a, ha, hf, rfl⟩ := mem_needs.mp hj
    have := h a ha hf
    omega
theorem keyO_eq {n : Nat} {f : Nat → Nat → Bool} {O : List Nat} {x m g : Nat} (hg : g < n) (hf : f g x = true) (hm : g ∈ O ∧ O.idxOf g = m) (hle : ∀ a < n, f a x = true → a ∈ O ∧ O.idxOf a ≤ m) : keyO n f O x = (m : Int) := by
  unfold keyO keyD
  refine maxI_eq _ _ (List.mem_map.mpr ⟨m, mem_needs.mpr ⟨g, hg, hf, by rw [if_pos hm.1, hm.2]⟩, rfl⟩) (by omega) fun k hk => ?_
  obtain ⟨j, hj, rfl⟩ := List.mem_map.mp hk
  obtain ⟨a, ha, hf, rfl⟩ := mem_needs.mp hj
  have := hle a ha hf
  rw [if_pos this.1]
  omega
theorem needs_congr {n : Nat} {f : Nat → Nat → Bool} {O O' : List Nat} {x : Nat} (h : ∀ a < n, f a x = true → (if a ∈ O' then O'.idxOf a else n) = if a ∈ O then O.idxOf a else n) : needsD n f O' x = needsD n f O x := by
  unfold needsD
  refine List.map_congr_left fun a ha => ?_
  obtain ⟨h1, h2⟩ := List.mem_filter.mp ha
  exact h a (List.mem_range.mp h1) h2
theorem keyO_app {n : Nat} {f : Nat → Nat → Bool} {O N : List Nat} {x : Nat} (h : ∀ a < n, f a x = true → a ∈ O) : keyO n f (O ++ N) x = keyO n f O x := by
  unfold keyO
  rw [needs_congr fun a ha hf => ?_]
  have := h a ha hf
  rw [if_pos this, if_pos (List.mem_append_left _ this), List.idxOf_append, if_pos this]

structure LInv (n : Nat) (f : Nat → Nat → Bool) (ws : List Int) (Q gone : List Nat) : Prop where
  wl : ws.length = n
  w : ∀ k < n, ws.getD k 0 = (cnt n f gone k : Int)
  nodup : (gone ++ Q).Nodup
  lt : ∀ k ∈ gone ++ Q, k < n
  mem : ∀ k < n, (k ∈ gone ++ Q ↔ ∀ a < n, f a k = true → a ∈ gone)
  srt : (gone ++ Q).Pairwise fun x y => LtN (keyO n f (gone ++ Q) x, x) (keyO n f (gone ++ Q) y, y)
  prec : ∀ x ∈ gone ++ Q, ∀ a < n, f a x = true → (gone ++ Q).idxOf a < (gone ++ Q).idxOf x

theorem getD_set {l : List Int} {i k : Nat} {v : Int} (h : i < l.length) : (l.set i v).getD k 0 = if k = i then v else l.getD k 0 := by
  rw [List.getD_eq_getElem?_getD, List.getElem?_set, List.getD_eq_getElem?_getD]
  by_cases e : i = k
  · subst e; simp [h]
  · have : ¬ k = i := fun q => e q.symm
    simp [e, this]
section
variable {n : Nat} {f : Nat → Nat → Bool} {ps : List (Nat × Nat)} {ws : List Int} {Q gone : List Nat} {g : Nat}
theorem inn_spec (hps : ∀ a k, a < n → k < n → ((a, k) ∈ ps ↔ f a k = true)) (wl : ws.length = n) (hw : ∀ k < n, ws.getD k 0 = (cnt n f gone k : Int)) (hg : g < n) (hn : g ∉ gone) :
    ∀ m ≤ n, (inn ps g m (ws, Q)).1.length = n ∧ (∀ k < n, (inn ps g m (ws, Q)).1.getD k 0 = if k < m then (cnt n f (gone ++ [g]) k : Int) else (cnt n f gone k : Int)) ∧
      (inn ps g m (ws, Q)).2 = Q ++ (List.range m).filter fun k => f g k && decide (cnt n f (gone ++ [g]) k = 0)
  | 0, _ => ⟨wl, fun k hk => by rw [if_neg (by omega)]; exact hw k hk, by simp [inn]⟩
  | m + 1, hm => by
    obtain ⟨h1, h2, h3⟩ := inn_spec hps wl hw hg hn m (by omega)
    have hc := cnt_step (f := f) (k := m) hg hn
    have h2m := h2 m (by omega)
    rw [if_neg (by omega)] at h2m
    have hp := hps g m hg (by omega)
    unfold inn
    dsimp only
    rw [List.range_succ, List.filter_append]
    by_cases hf : f g m = true
    · rw [if_pos (hp.mpr hf), h2m]
      rw [if_pos hf] at hc
      have e : (cnt n f gone m : Int) - 1 = (cnt n f (gone ++ [g]) m : Int) := by omega
      rw [e]
      refine ⟨by rw [List.length_set]; exact h1, fun k hk => ?_, ?_⟩
      · rw [getD_set (by omega)]
        by_cases q : k = m
        · subst q; rw [if_pos rfl, if_pos (by omega)]
        · rw [if_neg q, h2 k hk]
          by_cases q2 : k < m
          · rw [if_pos q2, if_pos (by omega)]
          · rw [if_neg q2, if_neg (by omega)]
      · dsimp only
        by_cases q : cnt n f (gone ++ [g]) m = 0
        · rw [if_pos (by omega), h3]; simp [hf, q]
        · rw [if_neg (by omega), h3]; simp [q]
    · rw [if_neg fun q => hf (hp.mp q)]
      rw [if_neg hf] at hc
      refine ⟨h1, fun k hk => ?_, ?_⟩
      · rw [h2 k hk]
        by_cases q : k = m
        · subst q; rw [if_neg (by omega), if_pos (by omega)]; omega
        · by_cases q2 : k < m
          · rw [if_pos q2, if_pos (by omega)]
          · rw [if_neg q2, if_neg (by omega)]
      · rw [h3]; simp [hf]

theorem LInv.step (hps : ∀ a k, a < n → k < n → ((a, k) ∈ ps ↔ f a k = true)) (I : LInv n f ws (g :: Q) gone) : LInv n f (inn ps g n (ws, Q)).1 (inn ps g n (ws, Q)).2 (gone ++ [g]) := by
  have hgP : g ∈ gone ++ g :: Q := by simp
  have hg := I.lt g hgP
  have hgn : g ∉ gone := fun m => (List.nodup_append.mp I.nodup).2.2 g m g (.head _) rfl
  obtain ⟨h1, h2, h3⟩ := inn_spec (Q := Q) hps I.wl I.w hg hgn n (Nat.le_refl _)
  have hN : ∀ k, k ∈ ((List.range n).filter fun k => f g k && decide (cnt n f (gone ++ [g]) k = 0)) ↔ k < n ∧ f g k = true ∧ ∀ a < n, f a k = true → a ∈ gone ++ [g] := fun k => by
    rw [List.mem_filter, List.mem_range, Bool.and_eq_true, decide_eq_true_iff, cnt_zero]
  have hNn : ((List.range n).filter fun k => f g k && decide (cnt n f (gone ++ [g]) k = 0)).Nodup := List.nodup_range.filter _
  have hNs : ((List.range n).filter fun k => f g k && decide (cnt n f (gone ++ [g]) k = 0)).Pairwise (· < ·) := List.pairwise_lt_range.filter _
  rw [h3]
  generalize ((List.range n).filter fun k => f g k && decide (cnt n f (gone ++ [g]) k = 0)) = N at *
  have eP : (gone ++ [g]) ++ (Q ++ N) = (gone ++ g :: Q) ++ N := by simp
  have hsub : ∀ a ∈ gone, a ∈ gone ++ g :: Q := fun a h => List.mem_append_left _ h
  have hsub' : ∀ a ∈ gone ++ [g], a ∈ gone ++ g :: Q := fun a h => by
    rcases List.mem_append.mp h with h | h
    · exact hsub a h
    · rw [List.mem_singleton.mp h]; exact hgP
  have hpred : ∀ x ∈ gone ++ g :: Q, ∀ a < n, f a x = true → a ∈ gone := fun x hx => (I.mem x (I.lt x hx)).mp hx
  have idxg : (gone ++ g :: Q).idxOf g = gone.length := by rw [List.idxOf_append, if_neg hgn]; simp
  have idxgo : ∀ a ∈ gone, (gone ++ g :: Q).idxOf a < gone.length := fun a h => by rw [List.idxOf_append, if_pos h]; exact List.idxOf_lt_length_of_mem h
  have idxP : ∀ a ∈ gone ++ g :: Q, ((gone ++ g :: Q) ++ N).idxOf a = (gone ++ g :: Q).idxOf a := fun a h => by rw [List.idxOf_append, if_pos h]
  have hdis : ∀ k ∈ gone ++ g :: Q, k ∉ N := fun k hk hkN => hgn (hpred k hk g hg ((hN k).mp hkN).2.1)
  have keyP : ∀ x ∈ gone ++ g :: Q, keyO n f ((gone ++ g :: Q) ++ N) x = keyO n f (gone ++ g :: Q) x := fun x hx => keyO_app fun a ha hf => hsub a (hpred x hx a ha hf)
  have keyPlt : ∀ x ∈ gone ++ g :: Q, keyO n f (gone ++ g :: Q) x < (gone.length : Int) := fun x hx => keyO_lt.mpr fun a ha hf => by
    have := hpred x hx a ha hf
    rw [if_pos (hsub a this)]
    exact idxgo a this
  have keyN : ∀ x ∈ N, keyO n f ((gone ++ g :: Q) ++ N) x = (gone.length : Int) := fun x hx => by
    obtain ⟨q1, q2, q3⟩ := (hN x).mp hx
    refine keyO_eq hg q2 ⟨List.mem_append_left _ hgP, (idxP g hgP).trans idxg⟩ fun a ha hf => ?_
    have m := q3 a ha hf
    refine ⟨List.mem_append_left _ (hsub' a m), ?_⟩
    rw [idxP a (hsub' a m)]
    rcases List.mem_append.mp m with m | m
    · exact Nat.le_of_lt (idxgo a m)
    · rw [List.mem_singleton.mp m, idxg]; exact Nat.le_refl _
  refine ⟨h1, fun k hk => by rw [h2 k hk, if_pos hk], ?_, ?_, ?_, ?_, ?_⟩
  · rw [eP]
    exact List.nodup_append.mpr ⟨I.nodup, hNn, fun a ha b hb e => hdis a ha (e ▸ hb)⟩
  · rw [eP]
    intro k hk
    rcases List.mem_append.mp hk with hk | hk
    · exact I.lt k hk
    · exact ((hN k).mp hk).1
  · rw [eP]
    intro k hk
    constructor
    · intro m a ha hf
      rcases List.mem_append.mp m with m | m
      · exact List.mem_append_left _ (hpred k m a ha hf)
      · exact ((hN k).mp m).2.2 a ha hf
    · intro q
      by_cases hf : f g k = true
      · exact List.mem_append_right _ ((hN k).mpr ⟨hk, hf, q⟩)
      · refine List.mem_append_left _ ((I.mem k hk).mpr fun a ha hfa => ?_)
        rcases List.mem_append.mp (q a ha hfa) with m | m
        · exact m
        · rw [List.mem_singleton.mp m] at hfa; exact absurd hfa hf
  · rw [eP]
    refine List.pairwise_append.mpr ⟨?_, ?_, fun x hx y hy => ?_⟩
    · refine I.srt.imp_of_mem fun {x y} hx hy h => ?_
      rw [keyP x hx, keyP y hy]; exact h
    · refine hNs.imp_of_mem fun {x y} hx hy h => ?_
      rw [keyN x hx, keyN y hy]; exact .inr ⟨rfl, h⟩
    · rw [keyP x hx, keyN y hy]; exact .inl (keyPlt x hx)
  · rw [eP]
    intro x hx a ha hf
    rcases List.mem_append.mp hx with m | m
    · have ma := hsub a (hpred x m a ha hf)
      rw [idxP a ma, idxP x m]
      exact I.prec x m a ha hf
    · have ma := hsub' a (((hN x).mp m).2.2 a ha hf)
      have e : ((gone ++ g :: Q) ++ N).idxOf x = N.idxOf x + (gone ++ g :: Q).length := by
        rw [List.idxOf_append (l₁ := gone ++ g :: Q), if_neg fun q => hdis x q m]
      rw [idxP a ma, e]
      have := List.idxOf_lt_length_of_mem ma
      omega

theorem LInv.start (hc : ∀ k < n, (ps.filter fun p => decide (p.2 = k)).length = cnt n f [] k) : LInv n f (waits0 n ps) (push0 (waits0 n ps) n) [] := by
  have wl : (waits0 n ps).length = n := by unfold waits0; rw [List.length_map, List.length_range]
  have hw : ∀ k < n, (waits0 n ps).getD k 0 = (cnt n f [] k : Int) := fun k hk => by
    unfold waits0
    rw [List.getD_eq_getElem?_getD, List.getElem?_map, List.getElem?_range hk]
    show (((ps.filter fun p => decide (p.2 = k)).length : Nat) : Int) = _
    rw [hc k hk]
  have hm : ∀ k, k ∈ push0 (waits0 n ps) n ↔ k < n ∧ ∀ a < n, f a k = true → a ∈ ([] : List Nat) := fun k => by
    unfold push0
    rw [List.mem_filter, List.mem_range, decide_eq_true_iff, ← cnt_zero]
    constructor
    · rintro ⟨h1, h2⟩
      rw [hw k h1] at h2
      exact ⟨h1, by omega⟩
    · rintro ⟨h1, h2⟩
      refine ⟨h1, ?_⟩
      rw [hw k h1, h2]; rfl
  have hnd : (push0 (waits0 n ps) n).Nodup := List.nodup_range.filter _
  have hsr : (push0 (waits0 n ps) n).Pairwise (· < ·) := List.pairwise_lt_range.filter _
  generalize push0 (waits0 n ps) n = Q at *
  refine ⟨wl, hw, by rw [List.nil_append]; exact hnd, ?_, ?_, ?_, ?_⟩
  · rw [List.nil_append]; exact fun k hk => ((hm k).mp hk).1
  · rw [List.nil_append]; exact fun k hk => ⟨fun m => ((hm k).mp m).2, fun q => (hm k).mpr ⟨hk, q⟩⟩
  · rw [List.nil_append]
    refine hsr.imp_of_mem fun {x y} hx hy h => ?_
    have e : ∀ x ∈ Q, keyO n f Q x = -1 := fun x hx => by
      unfold keyO
      have : needsD n f Q x = [] := by
        refine List.eq_nil_iff_forall_not_mem.mpr fun j hj => ?_
        obtain ⟨a, ha, hf, _⟩ := mem_needs.mp hj
        exact nomatch ((hm x).mp hx).2 a ha hf
      rw [this]; rfl
    rw [e x hx, e y hy]
    exact .inr ⟨rfl, h⟩
  · rw [List.nil_append]
    exact fun x hx a ha hf => nomatch ((hm x).mp hx).2 a ha hf

theorem lineTo_inv (hps : ∀ a k, a < n → k < n → ((a, k) ∈ ps ↔ f a k = true)) (hc : ∀ k < n, (ps.filter fun p => decide (p.2 = k)).length = cnt n f [] k) : ∀ t, LInv n f (lineTo n ps t).1 (lineTo n ps t).2.1 (lineTo n ps t).2.2
  | 0 => LInv.start hc
  | t + 1 => by
    have I := lineTo_inv hps hc t
    unfold lineTo
    generalize lineTo n ps t = s at *
    obtain ⟨ws, Q, gone⟩ := s
    cases Q with
    | nil => exact I
    | cons g Q => exact I.step hps

theorem LInv.len (I : LInv n f ws Q gone) : (gone ++ Q).length ≤ n := by
  have := I.nodup.length_le_of_subset (l₂ := List.range n) fun k hk => List.mem_range.mpr (I.lt k hk)
  rwa [List.length_range] at this

theorem line_stuck {t : Nat} (h : (lineTo n ps t).2.1 = []) : ∀ k, lineTo n ps (t + k) = lineTo n ps t
  | 0 => rfl
  | k + 1 => by
    show lineStep n ps (lineTo n ps (t + k)) = _
    rw [line_stuck h k]
    unfold lineStep
    rw [h]
theorem line_next {t : Nat} (h : (lineTo n ps t).2.1 ≠ []) : (lineTo n ps (t + 1)).2.2.length = (lineTo n ps t).2.2.length + 1 := by
  show (lineStep n ps (lineTo n ps t)).2.2.length = _
  generalize lineTo n ps t = s at *
  obtain ⟨ws, Q, gone⟩ := s
  cases Q with
  | nil => exact absurd rfl h
  | cons g Q => show (gone ++ [g]).length = _; simp
theorem line_le (t : Nat) : (lineTo n ps t).2.2.length ≤ t := by
  induction t with
  | zero => exact Nat.le_refl _
  | succ t ih =>
    by_cases h : (lineTo n ps t).2.1 = []
    · rw [line_stuck h 1]; omega
    · rw [line_next h]; omega
theorem line_mono (t : Nat) : ∀ k, (lineTo n ps t).2.2.length ≤ (lineTo n ps (t + k)).2.2.length
  | 0 => Nat.le_refl _
  | k + 1 => by
    have ih := line_mono t k
    by_cases h : (lineTo n ps (t + k)).2.1 = []
    · have := line_stuck h 1
      rw [show t + (k + 1) = t + k + 1 by omega, this]; exact ih
    · have := line_next h
      rw [show t + (k + 1) = t + k + 1 by omega, this]; omega
/-- how many go -/
noncomputable def goes (n : Nat) (ps : List (Nat × Nat)) : Nat := (lineTo n ps n).2.2.length
theorem goes_le : goes n ps ≤ n := line_le n
theorem line_on {t : Nat} (h : t < goes n ps) : (lineTo n ps t).2.1 ≠ [] := fun q => by
  have hn : goes n ps ≤ n := goes_le
  have e := line_stuck q (n - t)
  rw [show t + (n - t) = n by omega] at e
  have h1 : goes n ps = (lineTo n ps t).2.2.length := by unfold goes; rw [e]
  have := line_le (n := n) (ps := ps) t
  omega
theorem line_len {t : Nat} (h : t ≤ goes n ps) : (lineTo n ps t).2.2.length = t := by
  induction t with
  | zero => rfl
  | succ t ih => rw [line_next (line_on (by omega)), ih (by omega)]
theorem line_end (h : goes n ps < n) : (lineTo n ps (goes n ps)).2.1 = [] := by
  refine Decidable.byContradiction fun q => ?_
  have h1 := line_next q
  rw [line_len (Nat.le_refl _)] at h1
  have h2 := line_mono (n := n) (ps := ps) (goes n ps + 1) (n - (goes n ps + 1))
  rw [show goes n ps + 1 + (n - (goes n ps + 1)) = n by omega, h1] at h2
  have : goes n ps = (lineTo n ps n).2.2.length := rfl
  omega
theorem line_last : lineTo n ps (goes n ps) = lineTo n ps n := by
  rcases Nat.lt_or_eq_of_le (goes_le (n := n) (ps := ps)) with h | h
  · have := line_stuck (line_end h) (n - goes n ps)
    rw [show goes n ps + (n - goes n ps) = n by omega] at this
    exact this.symm
  · rw [h]
theorem line_out (hps : ∀ a k, a < n → k < n → ((a, k) ∈ ps ↔ f a k = true)) (hc : ∀ k < n, (ps.filter fun p => decide (p.2 = k)).length = cnt n f [] k) : (lineTo n ps n).2.1 = [] := by
  rcases Nat.lt_or_eq_of_le (goes_le (n := n) (ps := ps)) with h | h
  · rw [← line_last]; exact line_end h
  · have := (lineTo_inv hps hc n).len
    rw [List.length_append] at this
    have e : (lineTo n ps n).2.2.length = n := h
    exact List.length_eq_zero_iff.mp (by omega)
end
end Mine
end

section
open PySem PySem.W PyProof.Rows PySem.Calls
namespace Mine

/-! rounds -/
structure Order (n : Nat) (f : Nat → Nat → Bool) (O : List Nat) : Prop where
  nodup : O.Nodup
  lt : ∀ k ∈ O, k < n
  mem : ∀ k < n, (k ∈ O ↔ ∀ a < n, f a k = true → a ∈ O)
  srt : O.Pairwise fun x y => LtN (keyO n f O x, x) (keyO n f O y, y)
  prec : ∀ x ∈ O, ∀ a < n, f a x = true → O.idxOf a < O.idxOf x

theorem filter_prefix {p : Nat → Bool} : ∀ l : List Nat, l.Pairwise (fun x y => p y = true → p x = true) → l.filter p = l.take (l.filter p).length
  | [], _ => rfl
  | x :: xs, h => by
    have h1 := List.pairwise_cons.mp h
    cases q : p x with
    | true =>
      rw [List.filter_cons_of_pos q, List.length_cons, List.take_succ_cons]
      exact congrArg _ (filter_prefix xs h1.2)
    | false =>
      have : xs.filter p = [] := List.filter_eq_nil_iff.mpr fun y hy e => by
        have := h1.1 y hy e
        rw [q] at this; cases this
      rw [List.filter_cons_of_neg (by simp [q]), this]; rfl

section
variable {n : Nat} {f : Nat → Nat → Bool} {O lost : List Nat}
theorem mem_take_idx {m a : Nat} (h : a ∈ O) : a ∈ O.take m ↔ O.idxOf a < m := by
  constructor
  · intro q
    have e : O.idxOf a = (O.take m).idxOf a := by
      conv => lhs; rw [← List.take_append_drop m O]
      rw [List.idxOf_append, if_pos q]
    rw [e]
    exact Nat.lt_of_lt_of_le (List.idxOf_lt_length_of_mem q) (List.length_take_le ..)
  · intro q
    have hl := List.idxOf_lt_length_of_mem h
    have e := List.getElem_idxOf hl
    have : (O.take m)[O.idxOf a]? = some a := by
      rw [List.getElem?_take, if_pos q, List.getElem?_eq_getElem hl, e]
    exact List.mem_of_getElem? this
theorem idx_take {m a : Nat} (q : a ∈ O.take m) : (O.take m).idxOf a = O.idxOf a := by
  conv => rhs; rw [← List.take_append_drop m O]
  rw [List.idxOf_append, if_pos q]

theorem Order.len (I : Order n f O) : O.length ≤ n := by
  have := I.nodup.length_le_of_subset (l₂ := List.range n) fun k hk => List.mem_range.mpr (I.lt k hk)
  rwa [List.length_range] at this
theorem Order.preds (I : Order n f O) {x a : Nat} (hx : x ∈ O) (ha : a < n) (hf : f a x = true) : a ∈ O := (I.mem x (I.lt x hx)).mp hx a ha hf

theorem ready_iff (I : Order n f O) (hlost : ∀ k < n, (k ∈ lost ↔ k ∉ O)) (m b : Nat) (hb : b < n) : readyB n f lost (O.take m) b = true ↔ b ∈ O ∧ b ∉ O.take m ∧ ∀ a < n, f a b = true → a ∈ O.take m := by
  unfold readyB
  rw [Bool.and_eq_true, Bool.and_eq_true, decide_eq_true_iff, decide_eq_true_iff, decide_eq_true_iff, hlost b hb]
  have hlt : ∀ a ∈ O.take m, (O.take m).idxOf a < n := fun a ha => Nat.lt_of_lt_of_le (List.idxOf_lt_length_of_mem ha) (Nat.le_trans (by rw [List.length_take]; exact Nat.min_le_right ..) I.len)
  constructor
  · rintro ⟨⟨h1, h2⟩, h3⟩
    refine ⟨Decidable.byContradiction h1, h2, fun a ha hf => Decidable.byContradiction fun q => h3 (mem_needs.mpr ⟨a, ha, hf, by rw [if_neg q]⟩)⟩
  · rintro ⟨h1, h2, h3⟩
    refine ⟨⟨fun q => q h1, h2⟩, fun q => ?_⟩
    obtain ⟨a, ha, hf, e⟩ := mem_needs.mp q
    have := h3 a ha hf
    rw [if_pos this] at e
    have := hlt a this
    omega

theorem round_step (I : Order n f O) (hlost : ∀ k < n, (k ∈ lost ↔ k ∉ O)) (m : Nat) : ∃ j, (sortP (readyD n f lost (O.take m) n)).map Prod.snd = (O.drop m).take j ∧ (m < O.length → 1 ≤ j) := by
  have hnd : (O.drop m).Nodup := I.nodup.sublist (List.drop_sublist ..)
  have hsd : (O.drop m).Pairwise fun x y => LtN (keyO n f O x, x) (keyO n f O y, y) := I.srt.sublist (List.drop_sublist ..)
  have hmemd : ∀ b, b ∈ O.drop m ↔ b ∈ O ∧ b ∉ O.take m := fun b => by
    have hn := I.nodup
    rw [← List.take_append_drop m O] at hn
    have h3 := (List.nodup_append.mp hn).2.2
    constructor
    · intro h
      exact ⟨(List.drop_sublist m O).subset h, fun q => h3 b q b h rfl⟩
    · rintro ⟨h1, h2⟩
      rw [← List.take_append_drop m O] at h1
      exact (List.mem_append.mp h1).resolve_left h2
  have hkey : ∀ b ∈ O, (keyO n f O b < (m : Int) ↔ ∀ a < n, f a b = true → a ∈ O.take m) := fun b hb => by
    rw [keyO_lt]
    constructor
    · intro h a ha hf
      have h1 := h a ha hf
      have h2 := I.preds hb ha hf
      rw [if_pos h2] at h1
      exact (mem_take_idx h2).mpr h1
    · intro h a ha hf
      have h2 := I.preds hb ha hf
      rw [if_pos h2]
      exact (mem_take_idx h2).mp (h a ha hf)
  have hR : readyD n f lost (O.take m) n = ((List.range n).filter (readyB n f lost (O.take m))).map fun b => (keyO n f O b, b) := by
    unfold readyD
    refine List.map_congr_left fun b hb => ?_
    obtain ⟨h1, h2⟩ := List.mem_filter.mp hb
    have h3 := ((ready_iff I hlost m b (List.mem_range.mp h1)).mp h2).2.2
    congr 1
    unfold keyO
    rw [needs_congr fun a ha hf => ?_]
    have h4 := h3 a ha hf
    rw [if_pos h4, if_pos ((List.take_sublist m O).subset h4), idx_take h4]
  have hp : ((List.range n).filter (readyB n f lost (O.take m))).Perm ((O.drop m).filter fun b => decide (keyO n f O b < (m : Int))) := by
    refine (List.perm_ext_iff_of_nodup (List.nodup_range.filter _) (hnd.filter _)).mpr fun b => ?_
    rw [List.mem_filter, List.mem_filter, List.mem_range, decide_eq_true_iff, hmemd]
    constructor
    · rintro ⟨h1, h2⟩
      obtain ⟨q1, q2, q3⟩ := (ready_iff I hlost m b h1).mp h2
      exact ⟨⟨q1, q2⟩, (hkey b q1).mpr q3⟩
    · rintro ⟨⟨q1, q2⟩, q3⟩
      exact ⟨I.lt b q1, (ready_iff I hlost m b (I.lt b q1)).mpr ⟨q1, q2, (hkey b q1).mp q3⟩⟩
  have hsort : sortP (readyD n f lost (O.take m) n) = ((O.drop m).filter fun b => decide (keyO n f O b < (m : Int))).map fun b => (keyO n f O b, b) := by
    refine List.Perm.eq_of_pairwise (le := LtN) (fun a b _ _ h1 h2 => ?_) (sortP_sorted _ (readyD_nodup n f lost _ n)) ?_ ((sortP_perm _).trans (hR ▸ hp.map _))
    · unfold LtN at h1 h2; omega
    · rw [List.pairwise_map]
      exact hsd.filter _
  refine ⟨((O.drop m).filter fun b => decide (keyO n f O b < (m : Int))).length, ?_, fun hm => ?_⟩
  · rw [hsort, List.map_map]
    have e : (Prod.snd ∘ fun b : Nat => (keyO n f O b, b)) = id := rfl
    rw [e, List.map_id]
    refine filter_prefix _ (hsd.imp fun {x y} h q => ?_)
    rw [decide_eq_true_iff] at q ⊢
    unfold LtN at h
    dsimp only at h
    omega
  · have hx : O[m] ∈ (O.drop m).filter fun b => decide (keyO n f O b < (m : Int)) := by
      have hmO : O[m] ∈ O := List.getElem_mem hm
      have hidx : O.idxOf O[m] = m := I.nodup.idxOf_getElem m hm
      rw [List.mem_filter, decide_eq_true_iff]
      refine ⟨List.mem_of_getElem? (i := 0) (by rw [List.getElem?_drop, Nat.add_zero, List.getElem?_eq_getElem hm]), keyO_lt.mpr fun a ha hf => ?_⟩
      have h2 := I.preds hmO ha hf
      rw [if_pos h2]
      have := I.prec _ hmO a ha hf
      omega
    exact List.length_pos_of_mem hx

theorem rounds (I : Order n f O) (hlost : ∀ k < n, (k ∈ lost ↔ k ∉ O)) : ∀ t, ∃ m, goneTo n f lost t = O.take m ∧ min t O.length ≤ m
  | 0 => ⟨0, rfl, by omega⟩
  | t + 1 => by
    obtain ⟨m, e, hm⟩ := rounds I hlost t
    obtain ⟨j, hj, hj1⟩ := round_step I hlost m
    refine ⟨m + j, ?_, ?_⟩
    · show goneTo n f lost t ++ (sortP (readyD n f lost (goneTo n f lost t) n)).map Prod.snd = _
      rw [e, hj, List.take_add]
    · by_cases q : m < O.length
      · have := hj1 q; omega
      · omega
theorem rounds_all (I : Order n f O) (hlost : ∀ k < n, (k ∈ lost ↔ k ∉ O)) : goneTo n f lost n = O := by
  obtain ⟨m, e, hm⟩ := rounds I hlost n
  have := I.len
  rw [e, List.take_of_length_le (by omega)]

/-! the lost -/
theorem tri_iff {a : Nat} : tri n f a = true ↔ ∃ b, b < n ∧ f a b = true ∧ ∃ c, c < n ∧ f b c = true ∧ f c a = true := by
  unfold tri
  rw [Bool.not_eq_true', List.isEmpty_eq_false_iff_exists_mem]
  constructor
  · rintro ⟨c, hc⟩
    obtain ⟨b, hb, hc⟩ := List.mem_flatMap.mp hc
    obtain ⟨h1, h2⟩ := List.mem_filter.mp hb
    obtain ⟨h3, h4⟩ := List.mem_filter.mp hc
    rw [Bool.and_eq_true] at h4
    exact ⟨b, List.mem_range.mp h1, h2, c, List.mem_range.mp h3, h4.1, h4.2⟩
  · rintro ⟨b, h1, h2, c, h3, h4, h5⟩
    exact ⟨c, List.mem_flatMap.mpr ⟨b, List.mem_filter.mpr ⟨List.mem_range.mpr h1, h2⟩, List.mem_filter.mpr ⟨List.mem_range.mpr h3, by rw [h4, h5]; rfl⟩⟩⟩

theorem mem_lostStep {L : List Nat} {k : Nat} : k ∈ lostStep n f L ↔ k < n ∧ (k ∈ L ∨ ∃ a ∈ L, f a k = true) := by
  unfold lostStep
  rw [List.mem_filter, List.mem_range, Bool.or_eq_true, decide_eq_true_iff, Bool.not_eq_true', List.isEmpty_eq_false_iff_exists_mem]
  refine and_congr_right fun _ => or_congr_right ?_
  constructor
  · rintro ⟨a, ha⟩
    obtain ⟨h1, h2⟩ := List.mem_filter.mp ha
    exact ⟨a, h1, h2⟩
  · rintro ⟨a, h1, h2⟩
    exact ⟨a, List.mem_filter.mpr ⟨h1, h2⟩⟩
theorem lostTo_filter (t : Nat) : lostTo n f t = (List.range n).filter fun k => decide (k ∈ lostTo n f t) := by
  have : ∃ p : Nat → Bool, lostTo n f t = (List.range n).filter p := by
    cases t with
    | zero => exact ⟨_, rfl⟩
    | succ t => exact ⟨_, rfl⟩
  obtain ⟨p, hp⟩ := this
  rw [hp]
  refine List.filter_congr fun k hk => ?_
  rw [Bool.eq_iff_iff, decide_eq_true_iff, List.mem_filter]
  exact ⟨fun h => ⟨hk, h⟩, fun h => h.2⟩
theorem lostTo_sub (t : Nat) : ∀ k ∈ lostTo n f t, k ∈ lostTo n f (t + 1) := fun k hk => mem_lostStep.mpr ⟨lostTo_lt n f t k hk, .inl hk⟩
theorem lostTo_grow (t : Nat) : lostTo n f (t + 1) = lostTo n f t ∨ t + 1 ≤ (lostTo n f (t + 1)).length := by
  have main : ∀ t, lostTo n f (t + 1) = lostTo n f t ∨ (lostTo n f t).length < (lostTo n f (t + 1)).length := fun t => by
    have hs : (lostTo n f t).Sublist (lostTo n f (t + 1)) := by
      have e : lostTo n f t = (lostTo n f (t + 1)).filter fun k => decide (k ∈ lostTo n f t) := by
        conv => rhs; rw [lostTo_filter (t + 1)]
        rw [List.filter_filter]
        conv => lhs; rw [lostTo_filter t]
        refine List.filter_congr fun k hk => ?_
        rw [Bool.eq_iff_iff, Bool.and_eq_true, decide_eq_true_iff, decide_eq_true_iff]
        exact ⟨fun h => ⟨h, lostTo_sub t k h⟩, fun h => h.1⟩
      rw [e]
      exact List.filter_sublist
    rcases Nat.lt_or_eq_of_le hs.length_le with h | h
    · exact .inr h
    · exact .inl (hs.eq_of_length h).symm
  induction t with
  | zero =>
    rcases main 0 with h | h
    · exact .inl h
    · exact .inr (by omega)
  | succ t ih =>
    rcases ih with h | h
    · refine .inl ?_
      show lostStep n f (lostTo n f (t + 1)) = lostTo n f (t + 1)
      conv => lhs; rw [h]
      rfl
    · rcases main (t + 1) with q | q
      · exact .inl q
      · exact .inr (by omega)
theorem lostTo_closed : lostTo n f (n + 1) = lostTo n f n := by
  rcases lostTo_grow (n := n) (f := f) n with h | h
  · exact h
  · have := lostTo_len n f (n + 1)
    omega
theorem lost_next {a k : Nat} (ha : a ∈ lostTo n f n) (hk : k < n) (hf : f a k = true) : k ∈ lostTo n f n := by
  rw [← lostTo_closed]
  exact mem_lostStep.mpr ⟨hk, .inr ⟨a, ha, hf⟩⟩
theorem lost_base (t : Nat) : ∀ k ∈ lost0 n f, k ∈ lostTo n f t := by
  induction t with
  | zero => exact fun k h => h
  | succ t ih => exact fun k h => lostTo_sub t k (ih k h)

theorem min_of (g : Nat → Nat) : ∀ W : List Nat, W ≠ [] → ∃ v ∈ W, ∀ u ∈ W, g v ≤ g u
  | [], h => absurd rfl h
  | [x], _ => ⟨x, .head _, fun u hu => by rw [List.mem_singleton.mp hu]; exact Nat.le_refl _⟩
  | x :: y :: W, _ => by
    obtain ⟨v, hv, h⟩ := min_of g (y :: W) (by simp)
    by_cases q : g x ≤ g v
    · exact ⟨x, .head _, fun u hu => by
        rcases List.mem_cons.mp hu with rfl | hu
        · exact Nat.le_refl _
        · exact Nat.le_trans q (h u hu)⟩
    · exact ⟨v, .tail _ hv, fun u hu => by
        rcases List.mem_cons.mp hu with rfl | hu
        · omega
        · exact h u hu⟩

/-- where every one has one ahead of it, three go round -/
theorem find_tri {lab : Nat → List Str} (anti : ∀ a b, f a b = true → f b a = false) (hcmp : ∀ a < n, ∀ b < n, a ≠ b → lab a <+: lab b ∨ lab b <+: lab a → f a b = true ∨ f b a = true)
    (hpre : ∀ a b, f a b = true → lab a <+: lab b ∨ lab b <+: lab a) : ∀ m, ∀ W : List Nat, W.length ≤ m → W ≠ [] → (∀ x ∈ W, x < n ∧ ∃ p ∈ W, f p x = true) → ∃ a ∈ W, ∃ b ∈ W, ∃ c ∈ W, f a b = true ∧ f b c = true ∧ f c a = true
  | 0, W, hl, hne, _ => absurd (List.length_eq_zero_iff.mp (by omega)) hne
  | m + 1, W, hl, hne, hW => by
    obtain ⟨v, hv, hmin⟩ := min_of (fun x => (lab x).length) W hne
    have ext : ∀ u ∈ W, lab v <+: lab u → ∀ p ∈ W, f p u = true → lab v <+: lab p := fun u hu hvu p hp hf => by
      rcases hpre p u hf with h | h
      · exact List.prefix_of_prefix_length_le hvu h (hmin p hp)
      · exact hvu.trans h
    have self : f v v = false := by
      cases q : f v v with
      | false => rfl
      | true => have := anti v v q; rw [q] at this; cases this
    have extB : ∀ x ∈ W, f x v = true → lab v <+: lab x := fun x hx hf => ext v hv (List.prefix_refl _) x hx hf
    have step : ∀ x ∈ W, f x v = true → (∃ p ∈ W, f p x = true ∧ f p v = true) ∨ ∃ p ∈ W, f v p = true ∧ f p x = true := fun x hx hf => by
      obtain ⟨p, hp, hpx⟩ := (hW x hx).2
      have hne : p ≠ v := fun e => by
        have := anti x v hf
        rw [← e] at this
        rw [hpx] at this; cases this
      rcases hcmp p (hW p hp).1 v (hW v hv).1 hne (.inr (ext x hx (extB x hx hf) p hp hpx)) with h | h
      · exact .inl ⟨p, hp, hpx, h⟩
      · exact .inr ⟨p, hp, h, hpx⟩
    by_cases q : ∃ x ∈ W, f x v = true ∧ ∃ p ∈ W, f v p = true ∧ f p x = true
    · obtain ⟨x, hx, hxv, p, hp, h1, h2⟩ := q
      exact ⟨v, hv, p, hp, x, hx, h1, h2, hxv⟩
    · have hB : ∀ x, x ∈ W.filter (fun x => f x v) ↔ x ∈ W ∧ f x v = true := fun x => List.mem_filter
      have hlt : (W.filter fun x => f x v).length < W.length := List.length_filter_lt_length_iff_exists.mpr ⟨v, hv, by rw [self]; exact Bool.false_ne_true⟩
      obtain ⟨p0, hp0, hp0v⟩ := (hW v hv).2
      obtain ⟨a, ha, b, hb, c, hc, r⟩ := find_tri anti hcmp hpre m (W.filter fun x => f x v) (by omega) (fun e => by
        have := (hB p0).mpr ⟨hp0, hp0v⟩
        rw [e] at this; cases this) fun x hx => by
          obtain ⟨h1, h2⟩ := (hB x).mp hx
          refine ⟨(hW x h1).1, ?_⟩
          rcases step x h1 h2 with ⟨p, hp, h3, h4⟩ | ⟨p, hp, h3, h4⟩
          · exact ⟨p, (hB p).mpr ⟨hp, h4⟩, h3⟩
          · exact absurd ⟨x, h1, h2, p, hp, h3, h4⟩ q
      exact ⟨a, ((hB a).mp ha).1, b, ((hB b).mp hb).1, c, ((hB c).mp hc).1, r⟩

theorem lost_compl {lab : Nat → List Str} (anti : ∀ a b, f a b = true → f b a = false) (hcmp : ∀ a < n, ∀ b < n, a ≠ b → lab a <+: lab b ∨ lab b <+: lab a → f a b = true ∨ f b a = true)
    (hpre : ∀ a b, f a b = true → lab a <+: lab b ∨ lab b <+: lab a) (I : Order n f O) : ∀ k < n, (k ∈ lostTo n f n ↔ k ∉ O) := by
  have fwd : ∀ t, ∀ k ∈ lostTo n f t, k ∉ O := fun t => by
    induction t with
    | zero =>
      intro k hk hO
      obtain ⟨b, hb, h1, c, hc, h2, h3⟩ := tri_iff.mp (List.mem_filter.mp hk).2
      have cO := I.preds hO hc h3
      have bO := I.preds cO hb h2
      have p1 := I.prec k hO c hc h3
      have p2 := I.prec c cO b hb h2
      have p3 := I.prec b bO k (I.lt k hO) h1
      omega
    | succ t ih =>
      intro k hk hO
      obtain ⟨hkn, h | ⟨a, ha, hf⟩⟩ := mem_lostStep.mp hk
      · exact ih k h hO
      · exact ih a ha (I.preds hO (lostTo_lt n f t a ha) hf)
  intro k hk
  refine ⟨fwd n k, fun hO => Decidable.byContradiction fun hL => ?_⟩
  have hW : ∀ x, x ∈ (List.range n).filter (fun x => !decide (x ∈ O) && !decide (x ∈ lostTo n f n)) ↔ x < n ∧ x ∉ O ∧ x ∉ lostTo n f n := fun x => by
    rw [List.mem_filter, List.mem_range, Bool.and_eq_true, Bool.not_eq_true', Bool.not_eq_true', decide_eq_false_iff_not, decide_eq_false_iff_not]
  obtain ⟨a, ha, b, hb, c, hc, h1, h2, h3⟩ := find_tri anti hcmp hpre _ ((List.range n).filter (fun x => !decide (x ∈ O) && !decide (x ∈ lostTo n f n))) (Nat.le_refl _) (fun e => by
      have := (hW k).mpr ⟨hk, hO, hL⟩
      rw [e] at this; cases this) fun x hx => by
        obtain ⟨q1, q2, q3⟩ := (hW x).mp hx
        refine ⟨q1, Decidable.byContradiction fun hno => q2 ((I.mem x q1).mpr fun a ha hf => Decidable.byContradiction fun haO => hno ⟨a, (hW a).mpr ⟨ha, haO, fun haL => q3 (lost_next haL q1 hf)⟩, hf⟩)⟩
  obtain ⟨q1, q2, q3⟩ := (hW a).mp ha
  exact q3 (lost_base n a (List.mem_filter.mpr ⟨List.mem_range.mpr q1, tri_iff.mpr ⟨b, ((hW b).mp hb).1, h1, c, ((hW c).mp hc).1, h2, h3⟩⟩))
end
end Mine
end

section
open PySem PySem.W PyProof.Rows PySem.Calls
namespace Mine

section
variable {prog : Program} {w : World} {base : Heap} {d : Nat} {A : Around} {s : Shared} {E : Value → Shared → Prop} {P : Params}

theorem lx_make : makesIn (hd.heap_39 P) 124 = true := by kernel_rfl
theorem lx_init : findIn (hd.heap_39 P) (.ref 124) "__init__" = some (some (.ref 100)) := by kernel_rfl
theorem lx_fn : typeIn (hd.heap_39 P) (.ref 100) = some (.type "function") := by kernel_rfl
theorem lx_set : findIn (hd.heap_39 P) (.ref 124) "__setattr__" = some (some (.builtin "object.__setattr__")) := by kernel_rfl
theorem lx_over : plainOver (hd.heap_39 P) 124 = true := by kernel_rfl
theorem lx_dict : hasDictIn (hd.heap_39 P) 124 = true := by kernel_rfl
theorem lx_t1 : takerIn (hd.heap_39 P) 124 "lineno" = some none := by kernel_rfl
theorem lx_t2 : takerIn (hd.heap_39 P) 124 "instream" = some none := by kernel_rfl
theorem lx_t3 : takerIn (hd.heap_39 P) 124 "whitespace" = some none := by kernel_rfl
theorem lx_t4 : takerIn (hd.heap_39 P) 124 "pushback" = some none := by kernel_rfl

/-- _netrclex(None) -/
theorem new_lex {Q : Value → Shared → Prop} (W : Wd (hd.heap_39 P) base d A s.heap) (hdd : d + 5 ≤ 500)
    (hQ : ∀ h' tk x dx es n p, (∀ b o, s.heap.get? b = some o → h'.get? b = some o) → s.heap.get? x = none → s.heap.get? dx = none → s.heap.get? p = none → p ≠ x → p ≠ dx →
      InstAt h' x (instObj 124 dx) 124 (some (dictOf es n)) → LexD es p → h'.PlainList p #[] → Q (.ref x) { s with heap := h', toks := tk }) :
    wpAny (model prog w) A (call (.ref 124) [.none]) Q E s := by
  obtain ⟨hh, g, dr, t, os⟩ := s
  obtain ⟨oc, od, osl, hK⟩ : ∃ oc od osl, (hd.heap_39 P).lookup 100 = some ⟨oc, od, .func (fdP P 100), osl⟩ := ⟨_, _, _, rfl⟩
  refine wpAny_call (make_core (makes_of W.K lx_make) (looks_findIn W.K lx_init) (fun self => bind_fn W.K self lx_fn) (.inl (by decide)) ?_)
  have kk : ∀ b o, hh.get? b = some o → ((hh.push emptyDict).push (instObj 124 hh.objs.size)).get? b = some o := fun b o e => Heap.get?_push_of_some _ (Heap.get?_push_of_some _ e)
  have hx : ((hh.push emptyDict).push (instObj 124 hh.objs.size)).get? (hh.objs.size + 1) = some (instObj 124 hh.objs.size) := by heap_get
  have hdx : ((hh.push emptyDict).push (instObj 124 hh.objs.size)).get? hh.objs.size = some emptyDict := Heap.get?_push_of_some _ (Heap.get?_push_size _ rfl)
  have hsz : ((hh.push emptyDict).push (instObj 124 hh.objs.size)).objs.size = hh.objs.size + 2 := by rw [Heap.size_push, Heap.size_push]
  have X1 : (hd.heap_39 P).In ((hh.push emptyDict).push (instObj 124 hh.objs.size)) := W.K.keeps kk
  generalize (hh.push emptyDict).push (instObj 124 hh.objs.size) = h1 at *
  refine call_cells_c (s := ⟨h1, g, dr, t, os⟩) (fd := fdP P 100) (body := bodyOf (fdP P 100)) (binds := [("self", .ref (hh.objs.size + 1)), ("fp", .none)]) (by have := W.room; have := W.depth; show A.depth + 1 < 1000; omega) (X1 _ _ hK) rfl (W.nolim.keeps kk) (codeRec_of X1 (by kernel_rfl)) rfl (binds_sf _ _ ⟨rfl, rfl, rfl, rfl, rfl⟩ rfl) rfl (fun x hx => .inl (by
    rcases List.mem_cons.mp hx with rfl | hx
    · rfl
    · rw [List.mem_singleton.mp hx]; rfl)) (fun s₁ X c => ?_) rfl rfl rfl
  obtain ⟨h₁, t₁, rfl⟩ := X.toInCall.same
  have ns := X.toInCall.ns
  have k1 := X.toInCall.keep
  have F : Fr hh h1.objs.size h₁ _ := ⟨ns, fun b o e => k1 b o (kk b o e), by omega⟩
  have N : News hh h1.objs.size h₁ [(hh.objs.size + 1, instObj 124 hh.objs.size), (hh.objs.size, dictOf [] 0)] := fun p hp => by
    rcases List.mem_cons.mp hp with rfl | hp
    · exact ⟨k1 _ _ hx, by show hh.objs.size + 1 ≠ _; omega, Heap.get?_none_of_le (Nat.le_succ _)⟩
    · rw [List.mem_singleton.mp hp]
      exact ⟨k1 _ _ hdx, by show hh.objs.size ≠ _; omega, Heap.get?_none_of_le (Nat.le_refl _)⟩
  have hne : hh.objs.size + 1 ≠ hh.objs.size := by omega
  refine wpAny_execs_cons (plainObj_wpAny_Assign_Attribute (wpAny_Constant_int (wpAny_Name (wpAny_loadName_local rfl rfl F.ns (v := .ref (hh.objs.size + 1)) rfl
    (set_dict F W.K N ⟨(N _ (.head _)).1, rfl, rfl, (N _ (.tail _ (.head _))).1⟩ rfl lx_set lx_over lx_t1 lx_dict rfl rfl (.tail hne (.head (fun _ m => nomatch m))) (show (1 : Nat) ≤ 1000 by decide) fun h2 F2 N2 => ?_)))))
  clear F N
  refine wpAny_execs_cons (plainObj_wpAny_Assign_Attribute (wpAny_Name (wpAny_loadName_local rfl rfl F2.ns (v := .none) rfl (wpAny_Name (wpAny_loadName_local rfl rfl F2.ns (v := .ref (hh.objs.size + 1)) rfl
    (set_dict F2 W.K N2 ⟨(N2 _ (.head _)).1, rfl, rfl, (N2 _ (.tail _ (.head _))).1⟩ rfl lx_set lx_over lx_t2 lx_dict rfl rfl (.tail hne (.head (fun _ m => nomatch m))) (show (2 : Nat) ≤ 1000 by decide) fun h3 F3 N3 => ?_))))))
  clear F2 N2
  refine wpAny_execs_cons (plainObj_wpAny_Assign_Attribute (Constant_str (wpAny_Name (wpAny_loadName_local rfl rfl F3.ns (v := .ref (hh.objs.size + 1)) rfl
    (set_dict F3 W.K N3 ⟨(N3 _ (.head _)).1, rfl, rfl, (N3 _ (.tail _ (.head _))).1⟩ rfl lx_set lx_over lx_t3 lx_dict rfl rfl (.tail hne (.head (fun _ m => nomatch m))) (show (3 : Nat) ≤ 1000 by decide) fun h4 F4 N4 => ?_)))))
  clear F3 N3
  refine wpAny_execs_cons (plainObj_wpAny_Assign_Attribute (List_ (spliced_nil (wpAny_newObj_type ?_ (Nat.zero_le _)))))
  have F5 := F4.push (seqObj "list" #[] 0)
  have N5 := N4.push F4 (seqObj "list" #[] 0)
  have hpl : (h4.push (seqObj "list" #[] 0)).PlainList h4.objs.size #[] := ⟨0, Heap.get?_push_size _ rfl⟩
  have nP : hh.get? h4.objs.size = none := (N5 _ (.head _)).2.2
  have nPx : h4.objs.size ≠ hh.objs.size + 1 := fun e => by have := Heap.lt_size (N4 _ (.head _)).1; rw [← e] at this; exact Nat.lt_irrefl _ this
  have nPd : h4.objs.size ≠ hh.objs.size := fun e => by have := Heap.lt_size (N4 _ (.tail _ (.head _))).1; rw [← e] at this; exact Nat.lt_irrefl _ this
  refine wpAny_Name (wpAny_loadName_local rfl rfl F5.ns (v := .ref (hh.objs.size + 1)) rfl
    (set_dict F5 W.K N5 ⟨(N5 _ (.tail _ (.head _))).1, rfl, rfl, (N5 _ (.tail _ (.tail _ (.head _)))).1⟩ rfl lx_set lx_over lx_t4 lx_dict rfl rfl (.tail nPd (.tail hne (.head (fun _ m => nomatch m)))) (show (4 : Nat) ≤ 1000 by decide) fun h6 F6 N6 => ?_))
  refine wpAny_execs_nil ⟨rfl, ?_⟩
  exact hQ h6 _ _ _ _ _ _ F6.keep (Heap.get?_none_of_le (Nat.le_succ _)) (Heap.get?_none_of_le (Nat.le_refl _)) nP nPx nPd ⟨(N6 _ (.tail _ (.head _))).1, rfl, rfl, (N6 _ (.tail _ (.tail _ (.head _)))).1⟩ ⟨rfl, rfl, rfl⟩ ⟨0, (N6 _ (.head _)).1⟩
end
end Mine
end

section
open PySem PySem.W PyProof.Rows PySem.Calls
namespace Mine

section
variable {prog : Program} {w : World} {base : Heap} {d : Nat} {env : Env} {ρ : List (Str × Bnd)} {e : Expr} {pos p px pe pc : Pos} {x : Str} {P : Params} {k : Nat}

theorem lx_keep : keepIn (hd.heap_39 P) (.ref 124) = true := by kernel_rfl

/-- x = _netrclex(None) -/
theorem ex_lex (hx : Storable env x) (hg : env.kindOf "_netrclex" = some .globalImplicit) (hd5 : d + 5 ≤ 500) (hs : swapsWith (.Call (.Name "_netrclex" p) [.Constant .none k pc] [] pe) (some (.Name x px)) pos.line env = pure false := by rfl) :
    Ex1 prog w (hd.heap_39 P) base d env ρ (.Assign [.Name x px] (.Call (.Name "_netrclex" p) [.Constant .none k pc] [] pe) pos) (.next ((x, .lex 124 []) :: ρ)) := fun A Y M h₀ s E W B S => by
  refine wpAny_Assign_Name (hs := hs) (Call_Name rfl (wpAny_mono (ev_global (K := hd.heap_39 P) (p := p) (by kernel_rfl : nsIn (hd.heap_39 P) mainGlobals "_netrclex" = some (some (.ref 124))) hg (by decide) A _ s E W S.nm) (fun f s₁ q => ?_) fun _ _ x => x))
  obtain ⟨rfl, k1⟩ := q
  refine callWith_K (W.keeps (kext k1)).K lx_keep (spliced_cons (wpAny_Constant_none (k := k) (pos := pc) (spliced_nil ⟨(W.keeps (kext k1)).K, ?_⟩)))
  refine new_lex (W.keeps (kext k1)) hd5 fun h₁ t₁ xa dx es n pa kk nx ndx np px' pdx I hg hp => ?_
  obtain ⟨hk1, tk1, rfl, kx1⟩ := k1
  have kk' : Hext base s.heap h₁ := hext_trans kx1 (.of' kk)
  have new0 : ∀ b, hk1.get? b = none → s.heap.get? b = none := fun b q => none_of_ext kx1 q
  have hal : ∃ o, h₁.get? pa = some o := let ⟨n, e⟩ := hp; ⟨_, e⟩
  have hnp := new0 pa np
  have hnx := new0 xa nx
  have hnd := new0 dx ndx
  have S1 : St base Y ([pa] ++ M) env ρ h₀ h₁ := S.grow (Y' := []) kk' (fun _ m => nomatch m) (fun b hb => by rw [List.mem_singleton.mp hb]; exact ⟨hnp, hal⟩) (fun _ m => nomatch m)
  have off : ∀ c, s.heap.get? c = none → c ∉ Y ++ M := fun c hc m => by obtain ⟨o, e⟩ := S.alive c m; rw [hc] at e; cases e
  have offF : ∀ c, s.heap.get? c = none → c ∉ frameAddrs env := fun c hc m => off c hc (List.mem_append_right _ (S.frameM c m))
  have hsl := slot_mem hx
  refine store1 S1.fw hx fun h' tk T V => ?_
  have keep' : ∀ c, s.heap.get? c = none → ∀ o, h₁.get? c = some o → h'.get? c = some o := fun c hc o e => T.out c o (fun m => by
    rw [List.map_cons, List.map_nil, List.mem_singleton] at m
    exact offF c hc (m ▸ hsl)) e
  have hpa : h'.PlainList pa #[] := hp.at fun o e => keep' pa hnp o e
  have I' : InstAt h' xa (instObj 124 dx) 124 (some (dictOf es n)) := InstAt.at' I rfl (fun o _ e => keep' xa hnx o e) (fun o _ e => keep' dx hnd o e) (show ¬ (dictOf es n).cls = Value.type "frame" by unfold dictOf; simp)
  refine ⟨h', tk, rfl, ⟨rfl, [pa] ++ M, ?_, fun b hb => ?_⟩, ⟨(kk'.less fun _ m => nomatch m).trans (Hout.of (M := [x].map (slotOf env)) T.out) (fun y hy => .inl ?_), (frOk_ext kk').trans T.frames⟩⟩
  · obtain ⟨ft, v1, v2, v3⟩ := S.var
    have VV : VarsAt Y M env ρ s.heap ft := ⟨v1, v2, v3⟩
    refine S1.stored (VV.grow (Y' := []) (M' := [pa]) kk' (fun _ m => nomatch m) (fun b hb => by rw [List.mem_singleton.mp hb]; exact hnp)) T (fun y hy => by rw [List.mem_singleton.mp hy]; exact hx) ⟨fun _ => [pa], fun y hy b e => ?_, fun y hy b hb => ?_, fun y hy z hz hne => absurd ((List.mem_singleton.mp hy).trans (List.mem_singleton.mp hz).symm) hne⟩ fun y hy b e => ?_
    · rw [List.mem_singleton.mp hy, List.lookup_cons, beq_self_eq_true] at e
      cases e
      rw [List.mem_singleton.mp hy]
      have nz : ∀ c, s.heap.get? c = none → c ≠ pa → c ∉ Y ++ ([pa] ++ M) := fun c hc hne m => by
        rcases List.mem_append.mp m with m | m
        · exact off c hc (List.mem_append_left _ m)
        · rcases List.mem_append.mp m with m | m
          · exact hne (List.mem_singleton.mp m)
          · exact off c hc (List.mem_append_right _ m)
      exact ⟨_, V, xa, instObj 124 dx, dx, es, n, pa, [], rfl, rfl, nz xa hnx (Ne.symm px'), nz dx hnd (Ne.symm pdx), I', rfl, hg, hpa, .nil⟩
    · rw [List.mem_singleton.mp hb]
      refine ⟨.head _, offF pa hnp, fun z hz => ?_⟩
      exact off pa hnp (List.mem_append_right _ (v2 z pa hz).1)
    · have : y ≠ x := fun q => hy (q ▸ .head _)
      rw [List.lookup_cons, beq_false_of_ne this] at e
      exact e
  · rcases List.mem_append.mp hb with q | q
    · rw [List.mem_singleton.mp q]; exact .inr hnp
    · exact .inl q
  · rw [List.map_cons, List.map_nil, List.mem_singleton] at hy
    rw [hy]; exact S.frameM _ (slot_mem hx)
end
end Mine
end

section
open PySem PySem.W PyProof.Rows PySem.Calls
namespace Mine

section
variable {prog : Program} {w : World} {base : Heap} {d : Nat} {A : Around} {s : Shared} {E : Value → Shared → Prop} {P : Params} {x dx p : Addr} {ox : Obj} {es : List DictEntry} {n : Nat}

theorem lx_ga : findIn (hd.heap_39 P) (.ref 124) "__getattribute__" = some (some (.builtin "object.__getattribute__")) := by kernel_rfl
theorem lx_gat : findIn (hd.heap_39 P) (.ref 124) "__getattr__" = some none := by kernel_rfl
theorem lx_f1 : findIn (hd.heap_39 P) (.ref 124) "pushback" = some none := by kernel_rfl
theorem lx_f2 : findIn (hd.heap_39 P) (.ref 124) "push_token" = some (some (.ref 121)) := by kernel_rfl
theorem lx_f3 : findIn (hd.heap_39 P) (.ref 124) "get_token" = some (some (.ref 114)) := by kernel_rfl
theorem lx_m2 : typeIn (hd.heap_39 P) (.ref 121) = some (.type "function") := by kernel_rfl
theorem lx_m3 : typeIn (hd.heap_39 P) (.ref 114) = some (.type "function") := by kernel_rfl

theorem lex_get {expr : Bool} {Q : Value → Shared → Prop} (X : (hd.heap_39 P).In s.heap) (I : InstAt s.heap x ox 124 (some (dictOf es n))) (D : LexD es p) (h : Q (.ref p) { s with toks := s.toks + 1 }) :
    wpAny (model prog w) A (getAttr (.ref x) "pushback" expr) Q E s :=
  get_value X I lx_ga (findObj_own (v := .ref p) lx_dict lx_f1 rfl D.1) rfl h
theorem lex_push_m {pl : Sem Bool} {Q : Value × List Value → Shared → Prop} (X : (hd.heap_39 P).In s.heap) (I : InstAt s.heap x ox 124 (some (dictOf es n))) (D : LexD es p) (h : Q (.ref 121, [.ref x]) s) :
    wpAny (model prog w) A (getMethod (.ref x) "push_token" pl) Q E s :=
  method_fn X I lx_ga lx_gat lx_f2 lx_m2 (by show (lookIn "push_token" (dictOf es n)).map _ = _; rw [lookIn_dict, D.2.1]; rfl) h
theorem lex_get_m {pl : Sem Bool} {Q : Value × List Value → Shared → Prop} (X : (hd.heap_39 P).In s.heap) (I : InstAt s.heap x ox 124 (some (dictOf es n))) (D : LexD es p) (h : Q (.ref 114, [.ref x]) s) :
    wpAny (model prog w) A (getMethod (.ref x) "get_token" pl) Q E s :=
  method_fn X I lx_ga lx_gat lx_f3 lx_m3 (by show (lookIn "get_token" (dictOf es n)).map _ = _; rw [lookIn_dict, D.2.2]; rfl) h

theorem inst_keeps {h h' : Heap} {od : Option Obj} (I : InstAt h x ox 124 od) (k : ∀ b o, h.get? b = some o → h'.get? b = some o) : InstAt h' x ox 124 od := by
  obtain ⟨h1, h2, h3, h4⟩ := I
  refine ⟨k _ _ h1, h2, h3, ?_⟩
  revert h4
  cases ox.dict <;> cases od <;> intro h4
  · trivial
  · exact h4
  · exact h4
  · exact k _ _ h4

theorem call_push {v : Value} {vs : List Value} {Q : Value → Shared → Prop} (W : Wd (hd.heap_39 P) base d A s.heap) (hdd : d + 5 ≤ 500) (I : InstAt s.heap x ox 124 (some (dictOf es n))) (D : LexD es p) (hp : s.heap.PlainList p vs.toArray) (hz : vs.length ≤ 1000000)
    (hQ : ∀ h1 h' tk, (∀ b o, s.heap.get? b = some o → h1.get? b = some o) → Heap.SameBut p h1 h' → h'.PlainList p (vs ++ [v]).toArray → Q .none { s with heap := h', toks := tk }) :
    wpAny (model prog w) A (call (.ref 121) [.ref x, v]) Q E s := by
  obtain ⟨oc, od, osl, hK⟩ : ∃ oc od osl, (hd.heap_39 P).lookup 121 = some ⟨oc, od, .func (fdP P 121), osl⟩ := ⟨_, _, _, rfl⟩
  refine wpAny_call (call_cells_c (fd := fdP P 121) (body := bodyOf (fdP P 121)) (binds := [("self", .ref x), ("token", v)]) W.room (W.K _ _ hK) rfl W.nolim (codeRec_of W.K (by kernel_rfl)) rfl (binds_st _ _ ⟨rfl, rfl, rfl, rfl, rfl⟩ rfl) rfl (fun x hx => .inl (by
    rcases List.mem_cons.mp hx with rfl | hx
    · rfl
    · rw [List.mem_singleton.mp hx]; rfl)) (fun s₁ X c => ?_) rfl rfl rfl)
  obtain ⟨h₁, t₁, rfl⟩ := X.toInCall.same
  have ns := X.toInCall.ns
  have k1 : ∀ b o, s.heap.get? b = some o → h₁.get? b = some o := X.toInCall.keep
  have X1 := W.K.keeps k1
  refine wpAny_execs_cons (wpAny_Expr_any (hi := by rfl) (wpAny_Call_append (hbase := by rfl) (hfew := by rfl) (hline := by rfl) (htrees := by rfl) ?_))
  refine Attribute_Name_ (wpAny_Name (wpAny_loadName_local rfl rfl ns (v := .ref x) rfl (lex_get X1 (inst_keeps I k1) D ?_)))
  have hp1 : h₁.PlainList p vs.toArray := hp.at fun o e => k1 _ _ e
  refine ⟨p, _, rfl, plain_L hp1, ?_⟩
  refine wpAny_Name (wpAny_loadName_local rfl rfl ns (v := v) rfl ?_)
  refine wpAny_list_append_plain (items := vs.toArray) hp1 (fun h' hl hs => wpAny_execs_nil ?_) ?_
  · exact hQ _ h' _ k1 hs (by simpa using hl)
  · rw [List.size_toArray]
    exact Nat.le_trans hz (by decide)

theorem if_attr {M : Model} {A : Around} {E : Value → Shared → Prop} {s : Shared} {env : Env} {test : Expr} {body orelse : List Stmt} {pos : Pos} {Q : Flow → Shared → Prop} (hp : isTrue test env (eval test env) = (do let v ← eval test env; standAt test.pos; holding [v] (truthy v)))
    (h : wpAny M A (eval test env) (fun v s₁ => wpAny M A (truthy v) (fun b s₂ => if b then wpAny M A (execs body env) Q E s₂ else wpAny M A (execs orelse env) Q E s₂) E s₁) E s) : wpAny M A (exec (.If test body orelse pos) env) Q E s := by
  refine wpAny_If ?_
  rw [hp]
  exact wpAny_bind (wpAny_mono h (fun v s₁ h₁ => wpAny_bind (wpAny_standAt (wpAny_holding h₁))) fun _ _ x => x)

theorem call_get {v : Value} {vs : List Value} {Q : Value → Shared → Prop} (W : Wd (hd.heap_39 P) base d A s.heap) (hdd : d + 5 ≤ 500) (I : InstAt s.heap x ox 124 (some (dictOf es n))) (D : LexD es p) (hp : s.heap.PlainList p (v :: vs).toArray) (hz : (v :: vs).length ≤ 1000000)
    (hQ : ∀ h1 h' tk, (∀ b o, s.heap.get? b = some o → h1.get? b = some o) → Heap.SameBut p h1 h' → h'.PlainList p vs.toArray → Q v { s with heap := h', toks := tk }) :
    wpAny (model prog w) A (call (.ref 114) [.ref x]) Q E s := by
  obtain ⟨oc, od, osl, hK⟩ : ∃ oc od osl, (hd.heap_39 P).lookup 114 = some ⟨oc, od, .func (fdP P 114), osl⟩ := ⟨_, _, _, rfl⟩
  refine wpAny_call (call_cells_c (fd := fdP P 114) (body := bodyOf (fdP P 114)) (binds := [("self", .ref x)]) W.room (W.K _ _ hK) rfl W.nolim (codeRec_of W.K (by kernel_rfl)) rfl (binds_self _ ⟨rfl, rfl, rfl, rfl, rfl⟩ rfl) rfl (fun x hx => .inl (by
    rw [List.mem_singleton.mp hx]; rfl)) (fun s₁ X c => ?_) rfl rfl rfl)
  obtain ⟨h₁, t₁, rfl⟩ := X.toInCall.same
  have ns := X.toInCall.ns
  have k1 : ∀ b o, s.heap.get? b = some o → h₁.get? b = some o := X.toInCall.keep
  have X1 := W.K.keeps k1
  have hp1 : h₁.PlainList p (v :: vs).toArray := hp.at fun o e => k1 _ _ e
  have I1 := inst_keeps I k1
  refine wpAny_execs_cons (if_attr rfl ?_)
  refine Attribute_Name_ (wpAny_Name (wpAny_loadName_local rfl rfl ns (v := .ref x) rfl (lex_get X1 I1 D ?_)))
  refine wpAny_truthy_list hp1.isList (by rw [List.size_toArray]; omega) ?_
  rw [if_pos (by simp)]
  refine wpAny_execs_cons (wpAny_Return_some ?_)
  refine Call_method1 (hbase := by rfl) (hs := by rfl) (hline := by rfl) ?_
  refine Attribute_Name_ (wpAny_Name (wpAny_loadName_local rfl rfl ns (v := .ref x) rfl (lex_get X1 I1 D ?_)))
  obtain ⟨n, ho⟩ := hp1
  refine ⟨"list", "list.pop", F.plainAttrs_list, F.slot_list_pop, F.type_list_pop, ⟨_, ho, rfl⟩, (fun a e => by cases e; exact ⟨_, ho, rfl⟩), ?_⟩
  refine PySem.Calls.callWith_builtin rfl (evalArgs_plain (spliced_cons (wpAny_Constant_int (spliced_nil ?_))))
  have hz' : (v :: vs).toArray.size ≤ sizeLine := by rw [List.size_toArray]; exact Nat.le_trans hz (by decide)
  have hk : seqIndex? 0 (v :: vs).toArray.size = some 0 := by
    unfold seqIndex?
    rw [List.size_toArray, List.length_cons]
    simp
  refine call_meets PySem.F.slot_list_pop ⟨_, ho, rfl⟩ PySem.F.entry_list_pop (PySem.F.args_list_pop_2 _ _) (PySem.MeetsSeq.list_pop_at p _ n 0 _ 0 v rfl hk (by simp) hz') ⟨ho, ?_⟩
  refine hQ _ _ _ k1 (Heap.SameBut.update ..) ?_
  have q := PySem.IsL.update ho (fun x => x.eraseIdxIfInBounds 0)
  rw [show ((v :: vs).toArray).eraseIdxIfInBounds 0 = vs.toArray from kl_erase [] vs v] at q
  exact ⟨_, q⟩
end
end Mine
end

section
open PySem PySem.W PyProof.Rows PySem.Calls
namespace Mine

section
variable {prog : Program} {w : World} {base : Heap} {d : Nat} {A : Around} {s : Shared} {E : Value → Shared → Prop} {P : Params}

theorem ns_some_of {K : Frag} {h : Heap} {N : Addr} {mg : Str → Option Value} {n : Str} {v : Value} (X : K.In h) (G : h.Ns N mg) (e : nsIn K N n = some (some v)) : mg n = some v := by
  obtain ⟨o, es, ep, ho, hd, _, hf⟩ := G
  unfold nsIn at e
  split at e
  · rename_i c d es' n' sl q
    have := X _ _ q
    rw [ho] at this
    cases this
    cases hd
    split at e
    · rename_i en he
      cases e
      rw [← hf]
      unfold nsFind findBy
      rw [← Array.find?_toList, he]
      rfl
    · split at e <;> cases e
  · cases e

theorem pe_ns : nsOkIn (hd.heap_39 P) 82 = true := by kernel_rfl
theorem pe_init : nsIn (hd.heap_39 P) 82 "__init__" = some (some (.ref 73)) := by kernel_rfl
noncomputable abbrev peObj (t : Addr) (dd : Option Addr) : Obj := { cls := .ref 83, dict := dd, data := .fields #[.ref t, .none, .none, .none, .bool false, .none] }
theorem pe_cls {h : Heap} (X : (hd.heap_39 P).In h) : ∃ bs sub k0 k1 k2 k3 k5, h.get? 83 = some (excClassObj "NetrcParseError" "NetrcParseError" 83 82 bs [.type "Exception", .type "BaseException", .type "object"] true [] sub false none none k0 k1 k2 k3 k5 "Exception.__new__") :=
  ⟨_, _, _, _, _, _, _, X 83 _ rfl⟩
theorem pe_set : findIn (hd.heap_39 P) (.ref 83) "__setattr__" = some (some (.builtin "object.__setattr__")) := by kernel_rfl
theorem pe_mro : mroIn (hd.heap_39 P) 83 (.type "object") = some true := by kernel_rfl
theorem pe_f1 : findIn (hd.heap_39 P) (.ref 83) "filename" = some none := by kernel_rfl
theorem pe_f2 : findIn (hd.heap_39 P) (.ref 83) "lineno" = some none := by kernel_rfl
theorem pe_f3 : findIn (hd.heap_39 P) (.ref 83) "msg" = some none := by kernel_rfl
theorem pe_cd : ∃ cd, clsIn (hd.heap_39 P) 83 = some cd ∧ cd.mro = [.ref 83, .type "Exception", .type "BaseException", .type "object"] ∧ cd.hasDict = true := ⟨_, rfl, rfl, rfl⟩

open Builtin Builtin.ObjectAttr in
theorem osa_pe {R : Result → Shared → Prop} {x : Addr} {ox : Obj} {od : Option Obj} {name : Str} {tk : Tok} {v : Value} (X : (hd.heap_39 P).In s.heap) (I : InstAt s.heap x ox 83 od) (ha : findIn (hd.heap_39 P) (.ref 83) name = some none)
    (h : wpAny (model prog w) A.in1 (storeInOwnDict (.ref x) (.ref 83) (.str name tk) name v false) (fun fin s' => match fin with | .done f => R (.ok f) s' | .again c' => c'.quiet = true ∧ codeAny (model prog w) A c' R s') (fun e s' => R (.error e) s') s) :
    codeAny (model prog w) A (.call (.builtin "object.__setattr__") ⟨[.ref x, .str name tk, v], []⟩) R s := by
  have SF := PySem.F.store_object
  obtain ⟨cd, hc, hmro, _⟩ := pe_cd (P := P)
  have sub : Looks (model prog w) s.heap (isInstance (.ref x) (.type "object")) true := I.type.andThen (looks_mroIn X pe_mro)
  refine codeAny_call_builtin SF.slot.plain SF.entry (@check_slot (model prog w) _ _ s "object.__setattr__" "object" "__setattr__" (.ref x) [.str name tk, v] [] _ SF.kind SF.split sub (SF.args (.ref x) (.str name tk) v) ?_)
  have hm : Looks (model prog w) s.heap (mroOf (.ref 83)) cd.mro := (looks_clsIn X hc).andThen .now
  have L3 : Looks (model prog w) s.heap (storeTaker? none) none := .now
  rw [osa_eq, refuse_eq]
  refine wpAny_bind (wpAny_bind (I.type.here (wpAny_bind (hm.here ?_))))
  rw [hmro, refuseLoop_ref, PySem.F.store_Exception.passes]
  exact wpAny_pure (wpAny_bind (I.type.here (wpAny_bind ((looks_findIn X ha).here (wpAny_bind (L3.here h))))))

open Builtin Builtin.ObjectAttr in
theorem store_in {Q : PySem.Fin → Shared → Prop} {h₀ : Heap} {L dx : Addr} {m : Str → Option Value} {pre post : List (Addr × Obj)} {es es' : List DictEntry} {n n' : Nat} {name : Str} {tk : Tok} {v : Value} (F : Fr h₀ L s.heap m) (N : News h₀ L s.heap (pre ++ (dx, dictOf es n) :: post))
    (hl : (getL name es).isSome = true) (h1 : ∀ p ∈ pre, p.1 ≠ dx) (h2 : ∀ p ∈ post, p.1 ≠ dx) (e : (putL name (PyData.keyHash w.params name) (.str name s.toks) v es, putN name es n) = (es', n')) (hz : es'.length ≤ 1000)
    (h : ∀ h', Fr h₀ L h' m → News h₀ L h' (pre ++ (dx, dictOf es' n') :: post) → Q (.done (.ret .none)) { s with heap := h', toks := s.toks + 1 }) :
    wpAny (model prog w) A (storeInDict dx (.str name tk) name v) Q E s := by
  obtain ⟨e1, e2⟩ := Prod.mk.inj e
  have e0 : Obj.putName name (PyData.keyHash w.params name) (.str name s.toks) v (dictOf es n) = dictOf es' n' := by rw [putName_dict, e1, e2]
  obtain ⟨U1, U2⟩ := news_upd (f := Obj.putName name (PyData.keyHash w.params name) (.str name s.toks) v) F N h1 h2 e0 rfl
  have D := (N (dx, dictOf es n) (by simp)).1
  have D' := (U2 (dx, dictOf es' n') (by simp)).1
  refine wpAny_bind (wpAny_pure (wpAny_bind ?_))
  unfold nsSet
  refine wpAny_bind (wpAny_bind (wpAny_askSetting (wpAny_pure (wpAny_bind (wpAny_mkText (wpAny_bind (wpAny_loadPart D ?_)))))))
  dsimp only
  have c : (!es.toArray.any (·.key.isStr name) && es.toArray.any (·.refKey)) = false := by
    rw [← Array.any_toList, ← Array.any_toList]
    unfold getL at hl
    dsimp only at hl ⊢
    split at hl
    · rename_i en he
      rw [List.any_eq_true.mpr ⟨en, List.mem_of_find?_eq_some he, List.find?_some he⟩]; rfl
    · split at hl
      · cases hl
      · rename_i z; rw [Bool.not_eq_true] at z; rw [z, Bool.and_false]
  rw [aRefKeyMayBeTheName_at, c]
  refine wpAny_updatePart D ?_
  refine wpAny_bind (wpAny_lookBehind D' (pastItsLine_dict (by rw [List.size_toArray, sizeLine_eq]; omega)) ?_)
  exact wpAny_pure (h _ U1 U2)

open Builtin Builtin.ObjectAttr in
/-- the first store makes the dict -/
theorem pe_store0 {Q : Unit → Shared → Prop} {h₀ : Heap} {L x t0 : Addr} {m : Str → Option Value} {news : List (Addr × Obj)} {name : Str} {v : Value} (F : Fr h₀ L s.heap m) (X₀ : (hd.heap_39 P).In h₀) (N : News h₀ L s.heap ((x, peObj t0 none) :: news)) (hx : ∀ p ∈ news, p.1 ≠ x) (ha : findIn (hd.heap_39 P) (.ref 83) name = some none)
    (h : ∀ h' tk k dx, Fr h₀ L h' m → News h₀ L h' ((x, peObj t0 (some dx)) :: (dx, dictOf [⟨PyData.keyHash w.params name, .str name k, v⟩] 1) :: news) → dx ≠ x → (∀ p ∈ news, p.1 ≠ dx) → Q () { s with heap := h', toks := tk }) :
    wpAny (model prog w) A (setAttr (.ref x) name v) Q E s := by
  have X := X₀.keeps F.keep
  have hxx := (N _ (.head _)).1
  have I : InstAt s.heap x (peObj t0 none) 83 none := ⟨hxx, rfl, rfl, trivial⟩
  obtain ⟨cd, hc, _, hd'⟩ := pe_cd (P := P)
  refine set_plain X I pe_set (osa_pe (s := { s with toks := s.toks + 1 }) X I ha ?_)
  refine wpAny_bind (wpAny_pure (wpAny_bind (wpAny_bind (wpAny_loadPart hxx (wpAny_bind ((looks_clsIn X hc).at ?_))))))
  rw [hd']
  have F1 := F.push { cls := .type "dict", data := .dict #[] }
  have N1 := N.push F { cls := .type "dict", data := .dict #[] }
  have hdx : s.heap.objs.size ≠ x := Nat.ne_of_gt (Heap.lt_size hxx)
  have hnews : ∀ p ∈ news, p.1 ≠ s.heap.objs.size := fun p hp => Nat.ne_of_lt (Heap.lt_size (N p (.tail _ hp)).1)
  refine wpAny_bind (wpAny_alloc (wpAny_bind (wpAny_update (N1 _ (.tail _ (.head _))).1 ?_)))
  obtain ⟨U1, U2⟩ := news_upd (pre := [(s.heap.objs.size, { cls := .type "dict", data := .dict #[] })]) (post := news) (d := x) (o := peObj t0 none) (o' := peObj t0 (some s.heap.objs.size)) (f := fun o => { o with dict := some s.heap.objs.size }) F1 N1
    (fun p hp => by rw [List.mem_singleton.mp hp]; exact hdx) hx rfl rfl
  have U2' : News h₀ L ((s.heap.push { cls := .type "dict", data := .dict #[] }).update x fun o => { o with dict := some s.heap.objs.size }) ([(x, peObj t0 (some s.heap.objs.size))] ++ (s.heap.objs.size, dictOf [] 0) :: news) := fun p hp => U2 p (by
    rcases List.mem_cons.mp hp with rfl | hp
    · exact .tail _ (.head _)
    · rcases List.mem_cons.mp hp with rfl | hp
      · exact .head _
      · exact .tail _ (.tail _ hp))
  refine wpAny_pure (wpAny_bind (wpAny_pure ?_))
  refine store_in (tk := s.toks) (s := { s with heap := _, toks := s.toks + 1 }) (pre := [(x, peObj t0 (some s.heap.objs.size))]) (post := news) (es := []) (n := 0) (es' := [⟨PyData.keyHash w.params name, .str name (s.toks + 1), v⟩]) (n' := 1) U1 U2' rfl (fun p hp => by rw [List.mem_singleton.mp hp]; exact Ne.symm hdx) hnews rfl (Nat.le_add_left 1 999) fun h' F' N' => ?_
  exact h h' _ _ _ F' N' hdx hnews

open Builtin Builtin.ObjectAttr in
/-- a later store -/
theorem pe_store {Q : Unit → Shared → Prop} {h₀ : Heap} {L x t0 dx : Addr} {m : Str → Option Value} {news : List (Addr × Obj)} {es es' : List DictEntry} {n n' : Nat} {name : Str} {v : Value} (F : Fr h₀ L s.heap m) (X₀ : (hd.heap_39 P).In h₀) (N : News h₀ L s.heap ((x, peObj t0 (some dx)) :: (dx, dictOf es n) :: news)) (hdx : dx ≠ x) (hnews : ∀ p ∈ news, p.1 ≠ dx) (ha : findIn (hd.heap_39 P) (.ref 83) name = some none)
    (hl : (getL name es).isSome = true) (e : (putL name (PyData.keyHash w.params name) (.str name (s.toks + 1)) v es, putN name es n) = (es', n')) (hz : es'.length ≤ 1000)
    (h : ∀ h' tk, Fr h₀ L h' m → News h₀ L h' ((x, peObj t0 (some dx)) :: (dx, dictOf es' n') :: news) → Q () { s with heap := h', toks := tk }) :
    wpAny (model prog w) A (setAttr (.ref x) name v) Q E s := by
  have X := X₀.keeps F.keep
  have hxx := (N _ (.head _)).1
  have I : InstAt s.heap x (peObj t0 (some dx)) 83 (some (dictOf es n)) := ⟨hxx, rfl, rfl, (N _ (.tail _ (.head _))).1⟩
  obtain ⟨cd, hc, _, hd'⟩ := pe_cd (P := P)
  refine set_plain X I pe_set (osa_pe (s := { s with toks := s.toks + 1 }) X I ha ?_)
  refine wpAny_bind (wpAny_pure (wpAny_bind (wpAny_bind (wpAny_loadPart hxx (wpAny_bind ((looks_clsIn X hc).at ?_))))))
  rw [hd']
  refine wpAny_pure (a := some dx) (wpAny_bind (wpAny_pure ?_))
  exact store_in (tk := s.toks) (s := { s with toks := s.toks + 1 }) (pre := [(x, peObj t0 (some dx))]) (post := news) F N hl (fun p hp => by rw [List.mem_singleton.mp hp]; exact Ne.symm hdx) hnews e hz fun h' F' N' => h h' _ F' N'
end
end Mine
end

section
open PySem PySem.W PyProof.Rows PySem.Calls
namespace Mine

section
variable {prog : Program} {w : World} {A : Around} {E : Value → Shared → Prop} {s : Shared} {env : Env}
/-- a call of a method, the arguments ahead of a function's frame -/
theorem call_meth {o : Expr} {name : Str} {apos pos : Pos} {args : List Expr} {Q : Value → Shared → Prop} (hbase : attributeBase o name env (eval o env) = eval o env)
    (hfew : ((backTo pos (starEach args env)).all (fun x => !x.1) && (backToKw pos (keywordEach [] env)).all (fun x => x.1.isSome)
      && decide (args.length + ([] : List Keyword).length + (if ([] : List Keyword).isEmpty then 0 else 1) < 30)) = true) (hline : (apos.endLine == pos.line) = true)
    (h : wpAny (model prog w) A (eval o env) (fun ov s₁ => ∀ pl : Sem Bool, wpAny (model prog w) A (getMethod ov name pl) (fun fx s₂ => wpAny (model prog w) A (callWith pos fx.1 fx.2 (backTo pos (starEach args env)) []) Q E s₂) E s₁) E s) :
    wpAny (model prog w) A (eval (.Call (.Attribute o name apos) args [] pos) env) Q E s := by
  rw [arm_eval_Call, hbase]
  refine wpAny_bind (wpAny_mono h (fun ov s₁ h₁ => ?_) fun _ _ e => e)
  refine wpAny_bind (wpAny_standAt ?_)
  have hform : methodCallForm (args.length + ([] : List Keyword).length) (backTo pos (starEach args env)) (backToKw pos (keywordEach [] env)) = true := hfew
  have hpos : methodCallPos true o env apos pos = pure pos := by unfold methodCallPos; simp [hline]
  unfold methodCall
  rw [hform]
  refine wpAny_bind (wpAny_holding (wpAny_mono (h₁ _) (fun fx s₂ h₂ => ?_) fun _ _ x => x))
  obtain ⟨f, first⟩ := fx
  exact wpAny_bind (wpAny_of_eq hpos h₂)
end

theorem var_det {h : Heap} {env : Env} {x : Str} {u v : Value} (U : VarAt h env x u) (V : VarAt h env x v) : u = v := by
  rcases U with ⟨h1, m, h2, h3⟩ | ⟨h1, c, h2, h3⟩ <;> rcases V with ⟨g1, m', g2, g3⟩ | ⟨g1, c', g2, g3⟩
  · obtain ⟨o, es, ep, ho, hd1, _, hf⟩ := h2
    obtain ⟨o', es', ep', ho', hd', _, hf'⟩ := g2
    rw [ho] at ho'; cases ho'; rw [hd1] at hd'; cases hd'
    have : m x = m' x := by rw [← hf x, hf' x]
    rw [h3, g3] at this; exact Option.some.inj this
  · rcases g1 with g1 | ⟨g1, _⟩ <;> rw [h1] at g1 <;> cases g1
  · rcases h1 with h1 | ⟨h1, _⟩ <;> rw [g1] at h1 <;> cases h1
  · rw [h2] at g2; cases g2
    obtain ⟨o, ho, hd1⟩ := h3
    obtain ⟨o', ho', hd'⟩ := g3
    rw [ho] at ho'; cases ho'; rw [hd1] at hd'; cases hd'; rfl
theorem var_same {h h' : Heap} {env : Env} {x : Str} {u : Value} {a : Addr} (U : VarAt h env x u) (hs : Heap.SameBut a h h') (ha : a ∉ frameAddrs env) : VarAt h' env x u := by
  rcases U with ⟨h1, m, h2, h3⟩ | ⟨h1, c, h2, h3⟩
  · exact .inl ⟨h1, m, h2.at' fun o e => hs.extBut _ o (fun q => ha (q ▸ .head _)) e, h3⟩
  · obtain ⟨o, ho, hd1⟩ := h3
    exact .inr ⟨h1, c, h2, o, hs.extBut _ o (fun q => ha (q ▸ .tail _ (List.mem_map.mpr ⟨_, mem_of_lookup h2, rfl⟩))) ho, hd1⟩

section
variable {prog : Program} {w : World} {base : Heap} {d : Nat} {env : Env} {ρ : List (Str × Bnd)} {e : Expr} {pos p px py apos apos2 p2 : Pos} {x y : Str} {P : Params}

theorem inst_ext {h h' : Heap} {xa dx : Addr} {ox : Obj} {es : List DictEntry} {n : Nat} (I : InstAt h xa ox 124 (some (dictOf es n))) (od : ox.dict = some dx) (k : Hext base h h') : InstAt h' xa ox 124 (some (dictOf es n)) :=
  InstAt.at' I od (fun o hc e => k.ex (fun m => nomatch m) hc e) (fun o hc e => k.ex (fun m => nomatch m) hc e) (show ¬ (dictOf es n).cls = Value.type "frame" by unfold dictOf; simp)
theorem inst_same {h h' : Heap} {xa dx a : Addr} {ox : Obj} {es : List DictEntry} {n : Nat} (I : InstAt h xa ox 124 (some (dictOf es n))) (od : ox.dict = some dx) (hs : Heap.SameBut a h h') (h1 : xa ≠ a) (h2 : dx ≠ a) : InstAt h' xa ox 124 (some (dictOf es n)) :=
  InstAt.at' I od (fun o _ e => hs.extBut _ o h1 e) (fun o _ e => hs.extBut _ o h2 e) (show ¬ (dictOf es n).cls = Value.type "frame" by unfold dictOf; simp)

theorem ev_pushback {ds : List PyData} (hx : ρ.lookup x = some (.lex 124 ds)) (hdb : (x == ("__debug__" : Str)) = false := by decide) : Ev prog w (hd.heap_39 P) base d env ρ (.Attribute (.Name x px) "pushback" pos) (IsL ds) := fun A Z s E W N => by
  obtain ⟨v, ft, V, ⟨xa, ox, dx, es, n, p, vs, rfl, _, _, _, I, _, D, hp, hr⟩, _⟩ := N.var x _ hx
  refine Attribute_Name_ (wpAny_Name (V.load N.fw.kind ?_) hdb)
  exact lex_get W.K I D ⟨⟨p, vs, rfl, plain_L hp, hr⟩, keeps_tok s _⟩

/-- x.push_token(e) -/
theorem ex_push {ds : List PyData} {dd : PyData} (hx : ρ.lookup x = some (.lex 124 ds)) (h : Ev prog w (hd.heap_39 P) base d env ρ e (IsS dd)) (hz : ds.length ≤ 1000000) (hd5 : d + 5 ≤ 500)
    (hi : interactive env = false) (hline : (apos.endLine == p.line) = true)
    (hfew : ((backTo p (starEach [e] env)).all (fun x => !x.1) && (backToKw p (keywordEach [] env)).all (fun x => x.1.isSome)
      && decide (([e] : List Expr).length + ([] : List Keyword).length + (if ([] : List Keyword).isEmpty then 0 else 1) < 30)) = true)
    (htrees : backTo p (starEach [e] env) = [(false, eval e env)])
    (hdb : (x == ("__debug__" : Str)) = false := by decide) (hbase : attributeBase (.Name x px) "push_token" env (eval (.Name x px) env) = eval (.Name x px) env := by rfl) :
    Ex1 prog w (hd.heap_39 P) base d env ρ (.Expr (.Call (.Attribute (.Name x px) "push_token" apos) [e] [] p) pos) (.next ((x, .lex 124 (ds ++ [dd])) :: ρ)) := fun A Y M h₀ s E W B S => by
  obtain ⟨ft, v1, v2, v3⟩ := S.var
  obtain ⟨v, V, xa, ox, dx, es, n, a, vs, rfl, e2, nx, nd, I, od, D, hp, hr⟩ := v1 x _ hx
  have ha : a ∈ ft x := by rw [e2]; exact .head _
  have haM := (v2 x a ha).1
  have xa_a : xa ≠ a := fun q => nx (q ▸ List.mem_append_right _ haM)
  have dx_a : dx ≠ a := fun q => nd (q ▸ List.mem_append_right _ haM)
  obtain ⟨oc, odd, osl, hK⟩ : ∃ oc od osl, (hd.heap_39 P).lookup 121 = some ⟨oc, od, .func (fdP P 121), osl⟩ := ⟨_, _, _, rfl⟩
  refine wpAny_Expr_any (hi := hi) (call_meth hbase hfew hline (wpAny_Name (V.load S.fw.kind fun pl => ?_) hdb))
  refine lex_push_m W.K I D ?_
  rw [htrees]
  refine PySem.Calls.callWith_function (o := ⟨oc, odd, .func (fdP P 121), osl⟩) (fd := fdP P 121) (evalArgs_plain (spliced_cons (wpAny_mono (h A _ s E W S.nm) (fun y s₁ q => ?_) fun _ _ x => x)))
  obtain ⟨ry, h₁, t₁, rfl, k⟩ := q
  refine spliced_nil ⟨⟨(W.keeps k).K _ _ hK, rfl⟩, ?_⟩
  have hp1 := plain_at hp fun o hc e => k.ex (fun m => nomatch m) hc e
  refine call_push (W.keeps k) hd5 (inst_ext I od k) D hp1 (by rw [hr.length]; exact hz) fun h2 h3 tk k2 hs3 hp3 => ?_
  have k12 : Hext base s.heap h2 := hext_trans k (.of' k2)
  have S2 := S.keeps k12
  have F2 : VarsAt Y M env ρ h2 ft := VarsAt.grow (Y' := []) (M' := []) ⟨v1, v2, v3⟩ k12 (fun _ m => nomatch m) (fun _ m => nomatch m)
  have hp2 := plain_at hp1 fun o _ e => k2 _ o e
  have kz : ∀ b o, b ∉ Y ++ M → h2.get? b = some o → h3.get? b = some o := fun b o hb e => hs3.extBut b o (fun q => hb (q ▸ List.mem_append_right _ haM)) e
  refine ⟨h3, tk, rfl, ⟨rfl, M, S2.upd F2 ha (V.keeps k12) hs3 (plain_al hp3) ⟨xa, ox, dx, es, n, a, vs ++ [y], rfl, e2, nx, nd, inst_same (inst_ext I od k12) od hs3 xa_a dx_a, od, D, hp3, ?_⟩, fun _ h => .inl h⟩, (Chg.ext k12).trans (chg_same hp2 hp3 hs3 haM) fun _ h => .inl h⟩
  exact ((hr.keeps k12).append (.one (ry.keeps (base := base) (.of' k2)))).mono (fun _ _ _ q => q) fun b o hb _ e => kz b o hb e

/-- y.append(x.get_token()) -/
theorem ex_gettok {ds gs : List PyData} {dd : PyData} (hx : ρ.lookup x = some (.lex 124 (dd :: ds))) (hy : ρ.lookup y = some (.own gs)) (hne : y ≠ x) (hz : gs.length ≤ 1000000) (hz2 : (dd :: ds).length ≤ 1000000) (hd5 : d + 5 ≤ 500)
    (hi : interactive env = false) (hline : (apos.endLine == p.line) = true) (hline2 : (apos2.endLine == p2.line) = true)
    (hfew : ((backTo p (starEach [.Call (.Attribute (.Name x px) "get_token" apos2) [] [] p2] env)).all (fun x => !x.1) && (backToKw p (keywordEach [] env)).all (fun x => x.1.isSome)
      && decide (([.Call (.Attribute (.Name x px) "get_token" apos2) [] [] p2] : List Expr).length + ([] : List Keyword).length + (if ([] : List Keyword).isEmpty then 0 else 1) < 30)) = true)
    (htrees : backTo p (starEach [.Call (.Attribute (.Name x px) "get_token" apos2) [] [] p2] env) = [(false, eval (.Call (.Attribute (.Name x px) "get_token" apos2) [] [] p2) env)])
    (hfew2 : ((backTo p2 (starEach [] env)).all (fun x => !x.1) && (backToKw p2 (keywordEach [] env)).all (fun x => x.1.isSome)
      && decide (([] : List Expr).length + ([] : List Keyword).length + (if ([] : List Keyword).isEmpty then 0 else 1) < 30)) = true := by rfl)
    (hdb : (x == ("__debug__" : Str)) = false := by decide) (hdb2 : (y == ("__debug__" : Str)) = false := by decide) (hbase : attributeBase (.Name y py) "append" env (eval (.Name y py) env) = eval (.Name y py) env := by rfl)
    (hbase2 : attributeBase (.Name x px) "get_token" env (eval (.Name x px) env) = eval (.Name x px) env := by rfl) :
    Ex1 prog w (hd.heap_39 P) base d env ρ (.Expr (.Call (.Attribute (.Name y py) "append" apos) [.Call (.Attribute (.Name x px) "get_token" apos2) [] [] p2] [] p) pos) (.next ((y, .own (gs ++ [dd])) :: (x, .lex 124 ds) :: ρ)) := fun A Y M h₀ s E W B S => by
  obtain ⟨ft, v1, v2, v3⟩ := S.var
  obtain ⟨v, V, g, us, rfl, e2, hpg, hrg⟩ := v1 y _ hy
  obtain ⟨v', V', xa, ox, dx, es, n, a, vs, rfl, e2', nx, nd, I, od, D, hp, hr⟩ := v1 x _ hx
  cases hr with
  | @cons v0 vs _ _ hr0 hr =>
  have hg : g ∈ ft y := by rw [e2]; exact .head _
  have ha : a ∈ ft x := by rw [e2']; exact .head _
  have haM := (v2 x a ha).1
  have hgM := (v2 y g hg).1
  have hga : g ≠ a := fun q => v3 y x hne g hg (q ▸ ha)
  have xa_a : xa ≠ a := fun q => nx (q ▸ List.mem_append_right _ haM)
  have dx_a : dx ≠ a := fun q => nd (q ▸ List.mem_append_right _ haM)
  obtain ⟨oc, odd, osl, hK⟩ : ∃ oc od osl, (hd.heap_39 P).lookup 114 = some ⟨oc, od, .func (fdP P 114), osl⟩ := ⟨_, _, _, rfl⟩
  refine wpAny_Expr_any (hi := hi) (wpAny_Call_append hbase hfew hline htrees (wpAny_Name (V.load S.fw.kind ⟨g, _, rfl, plain_L hpg, ?_⟩) hdb2))
  refine call_meth hbase2 hfew2 hline2 (wpAny_Name (V'.load S.fw.kind fun pl => ?_) hdb)
  refine lex_get_m W.K I D ?_
  refine PySem.Calls.callWith_function (o := ⟨oc, odd, .func (fdP P 114), osl⟩) (fd := fdP P 114) (PySem.evalArgs_none ⟨⟨W.K _ _ hK, rfl⟩, ?_⟩)
  have hlen := hr.length
  refine call_get W hd5 I D hp (by rw [List.length_cons, hlen]; exact hz2) fun h2 h3 tk k2 hs3 hp3 => ?_
  have k12 : Hext base s.heap h2 := .of' k2
  have S2 := S.keeps k12
  have F2 : VarsAt Y M env ρ h2 ft := VarsAt.grow (Y' := []) (M' := []) ⟨v1, v2, v3⟩ k12 (fun _ m => nomatch m) (fun _ m => nomatch m)
  have hp2 := plain_at hp fun o _ e => k2 _ o e
  have kz : ∀ b o, b ∉ Y ++ M → h2.get? b = some o → h3.get? b = some o := fun b o hb e => hs3.extBut b o (fun q => hb (q ▸ List.mem_append_right _ haM)) e
  have r3 : RepAll (Y ++ M) h3 (v0 :: vs) (dd :: ds) := ((RepAll.cons hr0 hr).keeps k12).mono (fun _ _ _ q => q) fun b o hb _ e => kz b o hb e
  have S3 : St base Y M env ((x, .lex 124 ds) :: ρ) h₀ h3 := S2.upd F2 ha (V'.keeps k12) hs3 (plain_al hp3) ⟨xa, ox, dx, es, n, a, vs, rfl, e2', nx, nd, inst_same (inst_ext I od k12) od hs3 xa_a dx_a, od, D, hp3, by cases r3 with | cons _ r => exact r⟩
  have hpg3 : h3.PlainList g us.toArray := (plain_at hpg fun o _ e => k2 _ o e).at fun o e => hs3.extBut g o hga e
  have Vy : VarAt h3 env y (.ref g) := var_same (V.keeps k12) hs3 (v2 x a ha).2
  refine wpAny_list_append_plain hpg3 (fun h4 hl4 hs4 => ?_) ?_
  · obtain ⟨ft', w1, w2, w3⟩ := S3.var
    have hy' : ((x, Bnd.lex 124 ds) :: ρ).lookup y = some (.own gs) := by
      rw [List.lookup_cons, beq_false_of_ne hne]; exact hy
    obtain ⟨u, U, g', us', rfl, e3, hpg', hrg'⟩ := w1 y _ hy'
    obtain rfl : g = g' := by have := var_det Vy U; cases this; rfl
    have hl4' : h4.PlainList g (us ++ [v0]).toArray := by simpa using hl4
    have hg' : g ∈ ft' y := by rw [e3]; exact .head _
    have kz4 : ∀ b o, b ∉ Y ++ M → h3.get? b = some o → h4.get? b = some o := fun b o hb e => hs4.extBut b o (fun q => hb (q ▸ List.mem_append_right _ hgM)) e
    refine ⟨h4, tk, rfl, ⟨rfl, M, S3.upd ⟨w1, w2, w3⟩ hg' U hs4 (plain_al hl4') ⟨g, us ++ [v0], rfl, e3, hl4', ?_⟩, fun _ h => .inl h⟩, ((Chg.ext k12).trans (chg_same hp2 hp3 hs3 haM) fun _ h => .inl h).trans (chg_same hpg3 hl4' hs4 hgM) fun _ h => .inl h⟩
    have rg3 : RepAll (Y ++ M) h3 us gs := (hrg.keeps k12).mono (fun _ _ _ q => q) fun b o hb _ e => kz b o hb e
    exact (rg3.append (.one (by cases r3 with | cons r _ => exact r))).mono (fun _ _ _ q => q) fun b o hb _ e => kz4 b o hb e
  · rw [List.size_toArray, hrg.length]
    exact Nat.le_trans hz (by decide)
end
end Mine
end

section
open PySem PySem.W PyProof.Rows PySem.Calls
namespace Mine

theorem boot_exc : bootBuiltins "Exception" = some (.type "Exception") := by decide +kernel
theorem glob_exc {P : Params} : nsIn (hd.heap_39 P) mainGlobals "Exception" = some none := by kernel_rfl
theorem exc_type : typeOf (.type "Exception") = pure (.type "type") := by kernel_rfl
theorem exc_stub : Manifest.isStub "Exception" = false := by decide +kernel
theorem exc_find {P : Params} : findCls (hd.heap_39 P) (.type "Exception") (.type "type") "__init__" = some (.val (.builtin "Exception.__init__")) := by kernel_rfl

theorem init_binds (P : Params) (s : Shared) (X : (hd.heap_39 P).In s.heap) (x a b c : Value) : Binds s (fdP P 73) [x, a, b, c] [("self", x), ("msg", a), ("filename", b), ("lineno", c)] :=
  binds_pe (T := 66) x a b c ⟨rfl, rfl, rfl, rfl, rfl⟩ rfl (X 66 _ rfl) rfl

/-- a NetrcParseError with its fields -/
noncomputable def PeAt (h : Heap) (e dx : Addr) (m f l : Value) : Prop := ∃ t es n, h.get? e = some (peObj t (some dx)) ∧ h.get? dx = some (dictOf es n) ∧ getL "msg" es = some (some m) ∧ getL "filename" es = some (some f) ∧ getL "lineno" es = some (some l)

section
variable {prog : Program} {w : World} {base : Heap} {d : Nat} {A : Around} {s : Shared} {E : Value → Shared → Prop} {P : Params}

theorem pe_getl (w : World) (k1 k2 k3 : Tok) (a b c : Value) : let es := [(⟨PyData.keyHash w.params "filename", .str "filename" k1, b⟩ : DictEntry), ⟨PyData.keyHash w.params "lineno", .str "lineno" k2, c⟩, ⟨PyData.keyHash w.params "msg", .str "msg" k3, a⟩]
    getL "msg" es = some (some a) ∧ getL "filename" es = some (some b) ∧ getL "lineno" es = some (some c) := ⟨rfl, rfl, rfl⟩

/-- NetrcParseError(a, b, c) -/
theorem new_parse {a b c : Value} {Q : Value → Shared → Prop} (W : Wd (hd.heap_39 P) base d A s.heap) (hdd : d + 5 ≤ 500)
    (hQ : ∀ h' tk e dx, (∀ b o, s.heap.get? b = some o → h'.get? b = some o) → s.heap.get? e = none → s.heap.get? dx = none → dx ≠ e → PeAt h' e dx a b c → Q (.ref e) { s with heap := h', toks := tk }) :
    wpAny (model prog w) A (call (.ref 83) [a, b, c]) Q E s := by
  obtain ⟨h, g, dr, t, os⟩ := s
  obtain ⟨bs, sub, k0, k1, k2, k3, k5, hC⟩ := pe_cls W.K
  obtain ⟨od, osl, hK⟩ : ∃ od osl, (hd.heap_39 P).lookup 73 = some ⟨.type "function", od, .func (fdP P 73), osl⟩ := ⟨_, _, rfl⟩
  have hN := Heap.Ns.of_isNs (isNs_of_in W.K (pe_ns (P := P)))
  refine wpAny_call_exc_init PySem.F.excBase_Exception hC hN (ns_some_of W.K hN pe_init) (W.K _ _ hK) rfl (fun h1 e hm => ?_)
  obtain ⟨t0, he, ht0, htt⟩ := hm.there
  have kk := hm.keeps
  have X1 : (hd.heap_39 P).In h1 := W.K.keeps kk
  have ne : ∀ b o, h.get? b = some o → b ≠ e := fun b o q r => by rw [r, hm.new] at q; cases q
  refine wpAny_call (call_cells_c (s := ⟨h1, g, dr, t, os⟩) (fd := fdP P 73) (body := bodyOf (fdP P 73)) (binds := [("self", .ref e), ("msg", a), ("filename", b), ("lineno", c)]) (by have := W.room; have := W.depth; show A.depth + 1 < 1000; omega) (X1 _ _ hK) rfl (W.nolim.keeps kk) (codeRec_of X1 (by kernel_rfl)) rfl (init_binds P ⟨h1, g, dr, t, os⟩ X1 _ _ _ _) rfl (fun x hx => .inl (by
    rcases List.mem_cons.mp hx with rfl | hx
    · rfl
    · rcases List.mem_cons.mp hx with rfl | hx
      · rfl
      · rcases List.mem_cons.mp hx with rfl | hx
        · rfl
        · rw [List.mem_singleton.mp hx]; rfl)) (fun s₁ X c' => ?_) rfl rfl rfl)
  obtain ⟨h₁, t₁, rfl⟩ := X.toInCall.same
  have ns := X.toInCall.ns
  have kx := X.toInCall.keep
  have F : Fr (hideAll h1 [e]) h1.objs.size h₁ _ := ⟨ns, fun b o q => kx b o (of_hideAll _ q), Nat.le_of_eq (hideAll_size _ _)⟩
  have X0 : (hd.heap_39 P).In (hideAll h1 [e]) := fun b o q => hideAll_get _ (X1 b o q) fun m => ne b o (W.K b o q) (List.mem_singleton.mp m)
  have N : News (hideAll h1 [e]) h1.objs.size h₁ [(e, peObj t0 none)] := fun p hp => by
    rw [List.mem_singleton.mp hp]
    exact ⟨kx _ _ he, Nat.ne_of_lt (Heap.lt_size he), hideAll_none _ (.head _)⟩
  refine wpAny_execs_cons (plainObj_wpAny_Assign_Attribute (wpAny_Name (wpAny_loadName_local rfl rfl F.ns (v := b) rfl (wpAny_Name (wpAny_loadName_local rfl rfl F.ns (v := .ref e) rfl
    (pe_store0 F X0 N (fun _ m => nomatch m) pe_f1 fun h2 tk2 q1 dx F2 N2 hdx _ => ?_))))))
  refine wpAny_execs_cons (plainObj_wpAny_Assign_Attribute (wpAny_Name (wpAny_loadName_local rfl rfl F2.ns (v := c) rfl (wpAny_Name (wpAny_loadName_local rfl rfl F2.ns (v := .ref e) rfl
    (pe_store F2 X0 N2 hdx (fun _ m => nomatch m) pe_f2 rfl rfl (show (2 : Nat) ≤ 1000 by decide) fun h3 tk3 F3 N3 => ?_))))))
  refine wpAny_execs_cons (plainObj_wpAny_Assign_Attribute (wpAny_Name (wpAny_loadName_local rfl rfl F3.ns (v := a) rfl (wpAny_Name (wpAny_loadName_local rfl rfl F3.ns (v := .ref e) rfl
    (pe_store F3 X0 N3 hdx (fun _ m => nomatch m) pe_f3 rfl rfl (show (3 : Nat) ≤ 1000 by decide) fun h4 tk4 F4 N4 => ?_))))))
  have X4 : (hd.heap_39 P).In h4 := X0.keeps F4.keep
  have st4 : base.StaysIn h4 := fun b o q => F4.keep b o (hideAll_get _ (kk b o (W.stays b o q)) fun m => ne b o (W.stays b o q) (List.mem_singleton.mp m))
  have he4 := (N4 _ (.head _)).1
  have hd4 := (N4 _ (.tail _ (.head _))).1
  refine wpAny_execs_cons (wpAny_Expr_any (hi := rfl) (call_meth rfl rfl rfl ?_))
  refine Name_function_global rfl rfl ?_ (by decide)
  unfold loadGlobal
  refine wpAny_bind (looks_nsIn (M := model prog w) X4 glob_exc _ _ _ _ (fun _ _ e => e) ?_)
  obtain ⟨mb, b1, b2⟩ := W.b.bn
  refine wpAny_bind (wpAny_nsGet (b1.keeps st4) ?_)
  rw [b2 _ (by decide), boot_exc]
  refine wpAny_pure fun pl => ?_
  refine method_type F4 X0 exc_type exc_stub exc_find rfl ?_
  refine PySem.Calls.callWith_builtin rfl (evalArgs_plain (spliced_cons (wpAny_Name (wpAny_loadName_local rfl rfl F4.ns (v := .ref e) rfl (spliced_cons (wpAny_Name (wpAny_loadName_local rfl rfl F4.ns (v := a) rfl (spliced_nil ?_))))))))
  obtain ⟨bs', sub', k0', k1', k2', k3', k5', hC4⟩ := pe_cls X4
  refine wpAny_call (codeAny_call_builtin PySem.F.excBase_Exception.init.plain PySem.F.excBase_Exception.initEntry (wpAny_check_init_sub PySem.F.excBase_Exception hC4 he4 rfl ?_))
  unfold Builtin.«BaseException.__init__»
  rw [List.nil_append]
  dsimp only
  rw [if_neg (by simp)]
  unfold newTuple Builtin.BaseException.bexcPut
  have he5 := Heap.get?_push_of_some { cls := .type "tuple", data := .seq [a].toArray } he4
  refine wpAny_bind (wpAny_newObj_type (wpAny_bind (wpAny_bind (wpAny_field he5 rfl rfl (wpAny_bind (wpAny_setField he5 rfl (show 0 < 6 by decide) ?_))))) (by size_fits))
  refine wpAny_letGo (wpAny_pure ?_)
  refine wpAny_execs_nil ⟨rfl, ?_⟩
  refine hQ _ _ e dx (fun b o q => ?_) hm.new ?_ hdx ?_
  · rw [Heap.get?_update_other _ _ (Ne.symm (ne b o q))]
    exact Heap.get?_push_of_some _ (F4.keep b o (hideAll_get _ (kk b o q) fun m => ne b o q (List.mem_singleton.mp m)))
  · have := (N4 _ (.tail _ (.head _))).2.2
    cases q : h.get? dx with
    | none => rfl
    | some o =>
      have z := hideAll_get [e] (kk dx o q) fun m => hdx (List.mem_singleton.mp m)
      rw [this] at z; cases z
  · obtain ⟨g1, g2, g3⟩ := pe_getl w q1 (tk2 + 1) (tk3 + 1) a b c
    refine ⟨h4.objs.size, _, 3, ?_, ?_, g1, g2, g3⟩
    · exact Heap.get?_update_self _ he5 rfl
    · rw [Heap.get?_update_other _ _ (Ne.symm hdx)]
      exact Heap.get?_push_of_some _ hd4
end
end Mine
end

section
open PySem PySem.W PyProof.Rows PySem.Calls
namespace Mine

/-- e, a new NetrcParseError with these fields, is under way in the frame env -/
noncomputable def RaiseAt (base : Heap) (env : Env) (m f : Str) (l : Int) (h₀ h' : Heap) (e : Addr) : Prop :=
  Hext base h₀ h' ∧ (∃ mm, h'.Ns env.locals mm) ∧ ∃ dx t1 t2 t3, h₀.get? e = none ∧ h₀.get? dx = none ∧ dx ≠ e ∧ dx ≠ env.locals ∧ PeAt h' e dx (.str m t1) (.str f t2) (.int l t3)

/-- the statements raise it -/
noncomputable def ExR (prog : Program) (w : World) (K : Frag) (base : Heap) (d : Nat) (env : Env) (ρ : List (Str × Bnd)) (ss : List Stmt) (m f : Str) (l : Int) : Prop :=
  ∀ A Y M h₀ s E, Wd K base d A s.heap → base.StaysIn h₀ → St base Y M env ρ h₀ s.heap → PassesOwn (model prog w) A env E → (∀ h' tk e, RaiseAt base env m f l h₀ h' e → E (.ref e) { s with heap := h', toks := tk }) →
    wpAny (model prog w) A (execs ss env) (fun _ _ => False) E s
noncomputable def Ex1R (prog : Program) (w : World) (K : Frag) (base : Heap) (d : Nat) (env : Env) (ρ : List (Str × Bnd)) (st : Stmt) (m f : Str) (l : Int) : Prop :=
  ∀ A Y M h₀ s E, Wd K base d A s.heap → base.StaysIn h₀ → St base Y M env ρ h₀ s.heap → PassesOwn (model prog w) A env E → (∀ h' tk e, RaiseAt base env m f l h₀ h' e → E (.ref e) { s with heap := h', toks := tk }) →
    wpAny (model prog w) A (exec st env) (fun _ _ => False) E s

section
variable {prog : Program} {w : World} {K : Frag} {base : Heap} {d : Nat} {env : Env} {ρ ρ' : List (Str × Bnd)} {e : Expr} {pos p np cpos : Pos} {x : Str} {m f : Str} {l : Int}

theorem exr_cons {st : Stmt} {rest : List Stmt} (h1 : Ex1 prog w K base d env ρ st (.next ρ')) (h2 : ExR prog w K base d env ρ' rest m f l) : ExR prog w K base d env ρ (st :: rest) m f l := fun A Y M h₀ s E W B S hE hQ => by
  refine wpAny_execs_cons (wpAny_mono (h1 A Y M h₀ s E W B S) (fun fl s₁ q => ?_) fun _ _ x => x)
  obtain ⟨h', tk, rfl, ⟨rfl, M', S', hM⟩, C⟩ := q
  exact h2 A Y M' h₀ _ E (W.step (S'.keep.stays (fun _ m => nomatch m) B) C.fr) B S' hE fun h'' tk' e r => hQ h'' tk' e r
theorem exr_here {st : Stmt} {rest : List Stmt} (h1 : Ex1R prog w K base d env ρ st m f l) : ExR prog w K base d env ρ (st :: rest) m f l := fun A Y M h₀ s E W B S hE hQ =>
  wpAny_execs_cons (wpAny_mono (h1 A Y M h₀ s E W B S hE hQ) (fun fl s₁ q => q.elim) fun _ _ x => x)
theorem exr_freeze {ss : List Stmt} {ds : List PyData} (hx : ρ.lookup x = some (.own ds)) (h : ExR prog w K base d env ((x, .fz (.list ds)) :: ρ) ss m f l) : ExR prog w K base d env ρ ss m f l := fun A Y M h₀ s E W B S hE hQ => by
  obtain ⟨M', S', hM⟩ := S.freeze hx
  exact h A Y M' h₀ s E W B S' hE hQ
theorem ex1r_if {body orelse : List Stmt} (ht : Tst prog w K base d env ρ e true) (h : ExR prog w K base d env ρ body m f l) : Ex1R prog w K base d env ρ (.If e body orelse pos) m f l := fun A Y M h₀ s E W B S hE hQ => by
  refine wpAny_If (wpAny_mono (ht A _ s E W S.nm) (fun c s₁ q => ?_) fun _ _ x => x)
  obtain ⟨rfl, h₁, t₁, rfl, k⟩ := q
  exact h A Y M h₀ _ E (W.keeps k) B (S.keeps k) hE hQ

/-- a for loop whose turn j raises -/
theorem ex1r_for {target iter : Expr} {body : List Stmt} {ds : List PyData} (hit : EvIt prog w K base d env ρ iter ds true) (binds : PyData → List (Str × PyData)) (σ : Nat → List (Str × Bnd)) (j : Nat) (hj : j < ds.length)
    (hasg : ∀ dd ∈ ds, AsgOk prog w env target dd (binds dd)) (hslot : ∀ dd ∈ ds, ∀ x ∈ (binds dd).map (·.1), Storable env x)
    (h0 : ∀ x b, (σ 0).lookup x = some b → ρ.lookup x = some b) (hbody : ∀ i dd, i < j → ds[i]? = some dd → Ex prog w K base d env (fzs (binds dd) ++ σ i) body (.next (σ (i + 1))))
    (hlast : ∀ dd, ds[j]? = some dd → ExR prog w K base d env (fzs (binds dd) ++ σ j) body m f l)
    (hs : ∀ x, foldedSetIterable iter env x = pure x := by intro _; rfl) : Ex1R prog w K base d env ρ (.For target iter body [] pos) m f l := fun A Y M h₀ s E W B S hE hQ => by
  refine wpAny_For (hs := hs) (hit A (Y ++ M) s E _ W S.nm fun I fp wr P stI s₂ kk Wk st hwr hfp hfz hP hI => ?_)
  obtain ⟨h₂, t₂, rfl, k2⟩ := kk
  dsimp only at *
  have hfz' := hfz rfl
  have wrAl : ∀ i h, stI i h → ∀ b ∈ wr, ∃ o, h.get? b = some o := fun i h q b hb => let ⟨o, e, _⟩ := hI.2.1 i h q b hb; ⟨o, e⟩
  have wr0 : ∀ b ∈ wr, h₀.get? b = none := fun b hb => none_of_ext S.keep (hwr b hb)
  have S0 : St base (wr ++ Y) M env (σ 0) h₀ h₂ := by
    have := S.grow (Y' := wr) (M' := []) k2 (fun b hb => ⟨hwr b hb, wrAl 0 _ st b hb⟩) (fun _ m => nomatch m) (fun _ _ m => nomatch m)
    exact this.weaken h0
  refine codeAny_forLoop_any (fun k s' => ∃ i h tk M', s' = { s with heap := h, toks := tk } ∧ i ≤ j ∧ k = ds.length + 1 - i ∧ stI i h ∧ St base (wr ++ Y) M' env (σ i) h₀ h ∧ (∀ a ∈ M', a ∈ M ∨ h₂.get? a = none) ∧
      Hout base (wr ++ M) h₂ h ∧ FrOk s.heap h) ?_ (ds.length + 1)
    ⟨0, h₂, t₂, M, rfl, Nat.zero_le _, rfl, st, S0, fun _ h => .inl h, .refl, frOk_ext k2⟩
  rintro k s' ⟨i, h, tk, M', rfl, hi, rfl, st, S1, hM, kp, fr⟩
  have hlt : i < ds.length := Nat.lt_of_le_of_lt hi hj
  refine Wk.item i _ _ _ hlt st fun v h1 tk1 hPv st1 k1 => ?_
  obtain ⟨dd, hdd, hrep⟩ := hP i v hPv
  have hdm : dd ∈ ds := List.mem_of_getElem? hdd
  obtain ⟨oI, eI, pI⟩ := hI.2.1 (i + 1) h1 st1 I hI.1
  have S2 : St base (wr ++ Y) M' env (σ i) h₀ h1 := S1.turned (C := wr) k1 (fun a ha => ⟨List.mem_append_left _ ha, wr0 a ha⟩) fun a ha => ⟨ha, by
    by_cases m : a ∈ wr
    · exact .inr (wrAl _ _ st1 a m)
    · exact .inl m⟩
  have fr1 : FrOk s.heap h1 := fun b o e q => by
    obtain ⟨o', e', q'⟩ := fr b o e q
    exact ⟨o', k1 b o' (fun m => by rw [hwr b m] at e; cases e) e', q'⟩
  have kp1 : Hout base (wr ++ M) h₂ h1 := kp.trans (Hout.of (M := wr) k1) fun x hx => .inl (List.mem_append_left _ hx)
  refine letOwned eI pI ?_
  have W2 : Wd K base d A h1 := W.step (S2.keep.stays (fun _ m => nomatch m) B) fr1
  have rep2 : Rep ((wr ++ Y) ++ M') h1 v dd := hrep.mono (fun b o e hb m => by
    rcases List.mem_append.mp m with m | m
    · rcases List.mem_append.mp m with m | m
      · exact hb (List.mem_append_left _ m)
      · exact hb (List.mem_append_right _ (List.mem_append_left _ m))
    · rcases hM b m with q | q
      · exact hb (List.mem_append_right _ (List.mem_append_right _ q))
      · rw [q] at e; cases e) fun b o hb hc e => kp1.ex (fun m => (List.mem_append.mp m).elim (fun m => hb (List.mem_append_left _ m)) fun m => hb (List.mem_append_right _ (List.mem_append_right _ m))) hc e
  refine hasg dd hdm A ((wr ++ Y) ++ M') _ _ v _ W2.handled S2.fw (fun a ha => List.mem_append_right _ (S2.frameM a ha)) rep2 fun h2 tk2 T hb2 => ?_
  have S3 := S2.binds T (hslot dd hdm) hb2
  have slM : ∀ a ∈ ((binds dd).map (·.1)).map (slotOf env), a ∈ M' := fun a ha => by
    obtain ⟨x, hx, rfl⟩ := List.mem_map.mp ha
    exact S2.frameM _ (slot_mem (hslot dd hdm x hx))
  have W3 : Wd K base d A h2 := W2.step (S3.keep.stays (fun _ m => nomatch m) B) T.frames
  rcases Nat.lt_or_eq_of_le hi with hij | rfl
  · refine wpAny_mono (hbody i dd hij hdd A (wr ++ Y) M' h₀ { s with heap := h2, toks := tk2 } _ W3 B S3) (fun f s₃ q => ?_) fun _ _ x => x
    obtain ⟨h3, tk3, rfl, ⟨rfl, M3, S4, hM3⟩, C⟩ := q
    have out12 : Hout base M' h1 h3 := (Hout.of (M := M') fun b o hb e => T.out b o (fun m => hb (slM b m)) e).trans C.out fun _ h => .inl h
    have hM3' : ∀ a ∈ M3, a ∈ M ∨ h₂.get? a = none := fun a ha => by
      rcases hM3 a ha with q | q
      · exact hM a q
      · by_cases m : a ∈ M
        · exact .inl m
        · cases e : h₂.get? a with
          | none => exact .inr rfl
          | some o =>
            by_cases mw : a ∈ wr
            · obtain ⟨o', e'⟩ := S3.alive a (List.mem_append_left _ (List.mem_append_left _ mw))
              rw [q] at e'; cases e'
            · obtain ⟨o1, e1⟩ := kp1.al (fun m' => (List.mem_append.mp m').elim mw m) ⟨o, e⟩
              by_cases ms : a ∈ M'
              · obtain ⟨o', e'⟩ := S3.alive a (List.mem_append_right _ ms)
                rw [q] at e'; cases e'
              · have := T.out a o1 (fun m' => ms (slM a m')) e1
                rw [q] at this; cases this
    refine ⟨ds.length + 1 - (i + 1), by omega, i + 1, h3, tk3, M3, rfl, hij, rfl, ?_, S4, hM3', kp1.trans out12 (fun x hx => (hM x hx).imp (List.mem_append_right _) id), fr1.trans (FrOk.trans T.frames C.fr)⟩
    · refine Wk.frame _ _ _ st1 fun b hb o e => out12.ex (fun m => ?_) (hI.2.2 _ _ st1 b hb o e) e
      obtain ⟨o', e'⟩ := hfp b hb
      rcases hM b m with q | q
      · exact hfz' b hb (List.mem_append_right _ q)
      · rw [q] at e'; cases e'
  · refine wpAny_mono (wpAny_passesOwn hE (hlast dd hdd A (wr ++ Y) M' h₀ { s with heap := h2, toks := tk2 } E W3 B S3 hE fun h' tk' e r => hQ h' tk' e r)) (fun f s₃ q => q.elim) fun _ _ x => x
end

section
variable {prog : Program} {w : World} {base : Heap} {d : Nat} {env : Env} {ρ : List (Str × Bnd)} {pos np cpos : Pos} {m f : Str} {l : Int} {P : Params}

theorem raise_made {A : Around} {E : Value → Shared → Prop} {s : Shared} {x : Sem Value} {Q : Flow → Shared → Prop} (hh : A.handled = none)
    (h : wpAny (model prog w) A x (fun v s₁ => ∃ e t dx, v = .ref e ∧ (hd.heap_39 P).In s₁.heap ∧ s₁.heap.get? e = some (peObj t (some dx)) ∧ E (.ref e) s₁) E s) :
    wpAny (model prog w) A (raiseStmt env (some x) none) Q E s := by
  unfold raiseStmt
  refine wpAny_bind (wpAny_mono h (fun v s₁ h₁ => ?_) fun _ _ x => x)
  obtain ⟨e, t, dx, rfl, X, he, hE⟩ := h₁
  obtain ⟨hp, g, d, tk, os⟩ := s₁
  obtain ⟨bs, sub, k0, k1, k2, k3, k5, hC⟩ := pe_cls X
  have he : hp.get? e = some { cls := .ref 83, dict := some dx, data := .fields #[.ref t, .none, .none, .none, .bool false, .none] } := he
  have hcB : (Value.ref 83 :: [Value.type "Exception", .type "BaseException", .type "object"]).contains (.type "BaseException") = true := by decide +kernel
  repeat (first | with_reducible refine wpAny_loadPart_at he ?_ | with_reducible refine wpAny_loadPart_at hC ?_ | (with_reducible refine wpAny_isSubtype_exc hC ?_; rw [hcB]) | wp_step)
  exact wpAny_raiseNew_none hh hE

theorem pe_keep : keepIn (hd.heap_39 P) (.ref 83) = true := by kernel_rfl
theorem pe_glob : nsIn (hd.heap_39 P) mainGlobals "NetrcParseError" = some (some (.ref 83)) := by kernel_rfl

/-- raise NetrcParseError(e1, e2, e3) -/
theorem ex1r_raise {e1 e2 e3 : Expr} (hg : env.kindOf "NetrcParseError" = some .globalImplicit) (hd5 : d + 5 ≤ 500) (h1 : Ev prog w (hd.heap_39 P) base d env ρ e1 (IsS (.str m))) (h2 : Ev prog w (hd.heap_39 P) base d env ρ e2 (IsS (.str f))) (h3 : Ev prog w (hd.heap_39 P) base d env ρ e3 (IsS (.int l)))
    (hst : starEach [e1, e2, e3] env = [(false, eval e1 env), (false, eval e2 env), (false, eval e3 env)] := by rfl) :
    Ex1R prog w (hd.heap_39 P) base d env ρ (.Raise (some (.Call (.Name "NetrcParseError" np) [e1, e2, e3] [] cpos)) none pos) m f l := fun A Y M h₀ s E W B S hE hQ => by
  rw [arm_exec_Raise]
  refine wpAny_bind (wpAny_standAt (raise_made (P := P) W.handled ?_))
  refine wpAny_bind (wpAny_mono (?_ : wpAny (model prog w) A (eval (.Call (.Name "NetrcParseError" np) [e1, e2, e3] [] cpos) env) _ E s) (fun v s₁ h₁ => wpAny_bind (wpAny_standAt (wpAny_pure h₁))) fun _ _ x => x)
  refine Call_Name rfl (wpAny_mono (ev_global (K := hd.heap_39 P) (p := np) pe_glob hg (by decide) A _ s E W S.nm) (fun fv s₁ q => ?_) fun _ _ x => x)
  obtain ⟨rfl, k1⟩ := q
  have W1 := W.keeps (kext k1)
  have N1 := S.nm.keeps (kext k1)
  rw [hst]
  refine callWith_of rfl (keeps_K (pe_keep (P := P))) (evalArgs_plain ?_)
  refine spliced_cons (wpAny_mono (h1 A _ s₁ E W1 N1) (fun v1 s₂ q2 => ?_) fun _ _ x => x)
  obtain ⟨r1, k2⟩ := q2
  obtain ⟨t1, rfl⟩ := rep_str r1
  refine spliced_cons (wpAny_mono (h2 A _ s₂ E (W1.keeps (kext k2)) (N1.keeps (kext k2))) (fun v2 s₃ q3 => ?_) fun _ _ x => x)
  obtain ⟨r2, k3⟩ := q3
  obtain ⟨t2, rfl⟩ := rep_str r2
  refine spliced_cons (wpAny_mono (h3 A _ s₃ E ((W1.keeps (kext k2)).keeps (kext k3)) ((N1.keeps (kext k2)).keeps (kext k3))) (fun v3 s₄ q4 => ?_) fun _ _ x => x)
  obtain ⟨r3, k4⟩ := q4
  obtain ⟨t3, rfl⟩ := rep_int r3
  have k14 := keeps_trans (keeps_trans (keeps_trans k1 k2) k3) k4
  have W4 := W.keeps (kext k14)
  refine spliced_nil ⟨W4.K, ?_⟩
  refine new_parse W4 hd5 fun h' tk e dx kk ne ndx hne pe => ?_
  obtain ⟨t, es, n, he, r⟩ := id pe
  have kx : Hext base s.heap h' := hext_trans (kext k14) (.of' kk)
  obtain ⟨h4, tk4, rfl, kx4⟩ := k14
  obtain ⟨mm, hmm⟩ := S.fw.ns
  refine ⟨e, t, dx, rfl, W4.K.keeps kk, he, ?_⟩
  refine hQ h' tk e ⟨hext_trans S.keep kx, ⟨mm, kx.ns (fun m => nomatch m) hmm⟩, dx, t1, t2, t3, none_of_ext (hext_trans S.keep kx4) ne, none_of_ext (hext_trans S.keep kx4) ndx, hne, fun q => ?_, pe⟩
  obtain ⟨o, _, _, ho, _⟩ := kx4.ns (fun m => nomatch m) hmm
  rw [← q] at ho
  have ndx : h4.get? dx = none := ndx
  rw [ndx] at ho; cases ho
end
end Mine
end

section
open PySem PySem.W PyProof.Rows PySem.Calls
namespace Mine

/-! trees that turn no object's class and no object's dict -/
noncomputable def Tame {α : Type} : Sem α → Prop
  | .pure _ | .raise _ | .unsupported _ | .finish _ | .register _ _ => True
  | .rule _ k => Tame (k ())
  | .at _ k => Tame (k ())
  | .load _ _ k => ∀ o, Tame (k o)
  | .update _ _ f k => (∀ o, (f o).cls = o.cls ∧ (f o).dict = o.dict) ∧ Tame (k ())
  | .alloc _ k => ∀ a, Tame (k a)
  | .loadIfAlive _ k => ∀ o, Tame (k o)
  | .point _ k => Tame (k ())
  | .fresh k => ∀ t, Tame (k t)
  | .ask k => ∀ x, Tame (k x)
  | .handled _ k => ∀ x, Tame (k x)
  | .stack k => ∀ l, Tame (k l)
  | _ => False

noncomputable def DK (h h' : Heap) : Prop := ∀ (b : Nat) (o : Obj), h.objs[b]? = some o → ∃ o' : Obj, h'.objs[b]? = some o' ∧ o'.cls = o.cls ∧ o'.dict = o.dict
theorem DK.refl (h : Heap) : DK h h := fun b o e => ⟨o, e, rfl, rfl⟩
theorem DK.trans {h h' h'' : Heap} (x : DK h h') (y : DK h' h'') : DK h h'' := fun b o e =>
  let ⟨o', e', c, d⟩ := x b o e; let ⟨o'', e'', c', d'⟩ := y b o' e'; ⟨o'', e'', c'.trans c, d'.trans d⟩
theorem DK.push {h h' : Heap} (x : DK h h') (o : Obj) : DK h (h'.push o) := x.trans fun b ob e => by
  obtain ⟨objs, l⟩ := h'
  refine ⟨ob, ?_, rfl, rfl⟩
  have hb : b < objs.size := (Array.getElem?_eq_some_iff.mp e).1
  show (objs.push o)[b]? = some ob
  rw [Array.getElem?_push_lt hb, ← Array.getElem?_eq_getElem hb]; exact e
theorem DK.update {h h' : Heap} (x : DK h h') (a : Addr) (f : Obj → Obj) (hf : ∀ o, (f o).cls = o.cls ∧ (f o).dict = o.dict) : DK h (h'.update a f) := x.trans fun b ob e => by
  obtain ⟨objs, l⟩ := h'
  have e : objs[b]? = some ob := e
  show ∃ o' : Obj, (objs.modify a f)[b]? = some o' ∧ o'.cls = ob.cls ∧ o'.dict = ob.dict
  rw [Array.getElem?_modify]
  by_cases q : a = b
  · subst q
    rw [if_pos rfl, e]
    exact ⟨_, rfl, hf ob⟩
  · rw [if_neg q, e]
    exact ⟨_, rfl, rfl, rfl⟩

theorem wp_tame {α : Type} {M : Model} {Γ : Ctx} (m : Sem α) : ∀ {Q : α → Pos → Shared → Prop} {E : Value → Pos → Shared → Prop} {p : Pos} {s : Shared} {h0 : Heap}, Tame m → DK h0 s.heap → Sem.wp M Γ m Q E p s →
    Sem.wp M Γ m (fun a p' s' => Q a p' s' ∧ DK h0 s'.heap) (fun e p' s' => E e p' s' ∧ DK h0 s'.heap) p s := by
  induction m with
  | pure a => intro Q E p s h0 t d h; rw [Sem.wp] at h ⊢; exact ⟨h, d⟩
  | raise e => intro Q E p s h0 t d h; rw [Sem.wp] at h ⊢; exact ⟨h, d⟩
  | unsupported w => intro Q E p s h0 t d h; rw [Sem.wp] at h; exact h.elim
  | finish e => intro Q E p s h0 t d h; rw [Sem.wp] at h; exact h.elim
  | rule g k ih => intro Q E p s h0 t d h; rw [Sem.wp] at h ⊢; exact ih () t d h
  | «at» g k ih => intro Q E p s h0 t d h; rw [Sem.wp] at h ⊢; exact ih () t d h
  | load a g k ih => intro Q E p s h0 t d h; rw [Sem.wp] at h ⊢; obtain ⟨o, ho, h⟩ := h; exact ⟨o, ho, ih o (t o) d h⟩
  | update a g f k ih => intro Q E p s h0 t d h; rw [Sem.wp] at h ⊢; exact ⟨h.1, ih () t.2 (d.update a f t.1) h.2⟩
  | alloc o k ih => intro Q E p s h0 t d h; rw [Sem.wp] at h ⊢; exact ih _ (t _) (d.push o) h
  | loadIfAlive a k ih => intro Q E p s h0 t d h; rw [Sem.wp] at h ⊢; exact ih _ (t _) d h
  | point l k ih => intro Q E p s h0 t d h; rw [Sem.wp] at h ⊢; exact ih () t d h
  | register a k ih => intro Q E p s h0 t d h; rw [Sem.wp] at h; exact h.elim
  | fresh k ih => intro Q E p s h0 t d h; rw [Sem.wp] at h ⊢; exact ih _ (t _) d h
  | ask k ih => intro Q E p s h0 t d h; rw [Sem.wp] at h ⊢; exact ih _ (t _) d h
  | choose a b k ih => intro Q E p s h0 t d h; exact t.elim
  | os a b k ih => intro Q E p s h0 t d h; exact t.elim
  | call a b c e k ih => intro Q E p s h0 t d h; exact t.elim
  | handled own k ih => intro Q E p s h0 t d h; rw [Sem.wp] at h ⊢; exact ih _ (t _) d h
  | newGen a k ih => intro Q E p s h0 t d h; exact t.elim
  | genState a k ih => intro Q E p s h0 t d h; exact t.elim
  | resume a b c k ih => intro Q E p s h0 t d h; exact t.elim
  | yield a b c k ih => intro Q E p s h0 t d h; exact t.elim
  | stack k ih => intro Q E p s h0 t d h; rw [Sem.wp] at h ⊢; exact ih _ (t _) d h
  | fork a k ih => intro Q E p s h0 t d h; exact t.elim
  | thread k ih => intro Q E p s h0 t d h; exact t.elim
  | await a b c e k ih => intro Q E p s h0 t d h; exact t.elim

theorem wpAny_tame {α : Type} {M : Model} {A : Around} {m : Sem α} {Q : α → Shared → Prop} {E : Value → Shared → Prop} {s : Shared} (t : Tame m) (h : wpAny M A m Q E s) :
    wpAny M A m (fun a s' => Q a s' ∧ DK s.heap s'.heap) (fun e s' => E e s' ∧ DK s.heap s'.heap) s := fun Γ p hΓ => wp_tame m t (.refl _) (h Γ p hΓ)

theorem Tame.bind {α β : Type} {m : Sem α} {f : α → Sem β} (h : Tame m) (hf : ∀ a, Tame (f a)) : Tame (m >>= f) := by
  show Tame (m.bind f)
  induction m with
  | pure a => exact hf a
  | raise e => exact trivial
  | unsupported w => exact trivial
  | finish e => exact trivial
  | rule g k ih => exact ih () h
  | «at» g k ih => exact ih () h
  | load a g k ih => exact fun o => ih o (h o)
  | update a g f k ih => exact ⟨h.1, ih () h.2⟩
  | alloc o k ih => exact fun a => ih a (h a)
  | loadIfAlive a k ih => exact fun a => ih a (h a)
  | point l k ih => exact ih () h
  | register a k ih => exact trivial
  | fresh k ih => exact fun a => ih a (h a)
  | ask k ih => exact fun a => ih a (h a)
  | choose a b k ih => exact h.elim
  | os a b k ih => exact h.elim
  | call a b c e k ih => exact h.elim
  | handled own k ih => exact fun a => ih a (h a)
  | newGen a k ih => exact h.elim
  | genState a k ih => exact h.elim
  | resume a b c k ih => exact h.elim
  | yield a b c k ih => exact h.elim
  | stack k ih => exact fun a => ih a (h a)
  | fork a k ih => exact h.elim
  | thread k ih => exact h.elim
  | await a b c e k ih => exact h.elim

theorem tame_load {a : Addr} : Tame (load a) := fun _ => trivial
theorem tame_mapFields (f : Array Value → Array Value) (o : Obj) : (Obj.mapFields f o).cls = o.cls ∧ (Obj.mapFields f o).dict = o.dict := by
  obtain ⟨c, d, dt, sl⟩ := o
  cases dt <;> exact ⟨rfl, rfl⟩
theorem tame_field (v : Value) (i : Nat) : Tame (field v i) := by
  unfold field
  refine Tame.bind ?_ fun vs => ?_
  · unfold fieldsOf
    cases v <;> first | exact trivial | skip
    refine Tame.bind tame_load fun o => ?_
    cases o.data <;> exact trivial
  · cases vs[i]? <;> exact trivial
theorem tame_setField (v : Value) (i : Nat) (x : Value) : Tame (setField v i x) := by
  unfold setField
  cases v <;> first | exact trivial | skip
  unfold updateField
  refine Tame.bind tame_load fun o => ?_
  cases o.data <;> first | exact trivial | skip
  dsimp only
  split
  · exact ⟨tame_mapFields _, trivial⟩
  · exact trivial
theorem tame_setFlight (e : Value) (f : Option Addr) : Tame (setFlight e f) := by
  unfold setFlight
  refine Tame.bind (tame_field e 1) fun tb => ?_
  split
  · exact tame_setField _ _ _
  · exact trivial
theorem tame_stack : Tame stack := fun _ => trivial
theorem tame_readyFrames : ∀ l : List Env, Tame (readyFrames l)
  | [] => trivial
  | env :: outer => by
    unfold readyFrames
    cases env.frame with
    | none => exact trivial
    | some f =>
      dsimp only
      refine Tame.bind tame_load fun o => ?_
      split
      · exact trivial
      · refine Tame.bind ?_ fun imp => Tame.bind ?_ fun back => Tame.bind ⟨fun o => ⟨rfl, rfl⟩, trivial⟩ fun _ => tame_readyFrames outer
        · unfold behindIsImport
          split
          · exact trivial
          · split
            · exact trivial
            · exact Tame.bind (tame_field _ _) fun _ => trivial
        · unfold keptBack
          split
          · split
            · exact trivial
            · refine Tame.bind ?_ fun b => ?_
              · unfold underTheClaimsCaller
                exact Tame.bind tame_stack fun _ => trivial
              · cases b <;> exact trivial
          · exact trivial
theorem tame_frameOf (env : Env) : Tame (PySem.frameOf env) := by
  unfold PySem.frameOf frameEnvs
  refine Tame.bind (Tame.bind tame_stack fun _ => trivial) fun l => ?_
  refine Tame.bind ?_ fun x => ?_
  · unfold frameObject
    split
    · exact trivial
    · exact Tame.bind (tame_readyFrames _) fun _ => trivial
  · cases x <;> exact trivial
theorem tame_fields (l : List Value) : Tame (newFields "traceback" l) := by
  unfold newFields newObj
  dsimp only
  split
  · exact trivial
  · exact fun _ => trivial
theorem tame_newEntry (a b c d e : Value) (l : List Value) : Tame (EntryCells.newEntry a b c d e l) := tame_fields _
theorem tame_entryPlace (f : Addr) (b : Bool) : Tame (entryPlaceOf f b) := by
  unfold entryPlaceOf
  refine Tame.bind tame_stack fun acts => ?_
  split <;> exact trivial
theorem tame_noteFrame (e : Value) (env : Env) : Tame (noteFrame e env) := by
  unfold noteFrame
  cases env.frame with
  | none => exact trivial
  | some f =>
    dsimp only
    refine Tame.bind (tame_field _ _) fun head => ?_
    have tail : Tame (do setField e 1 (← EntryCells.newEntry head (← PySem.frameOf env) .none (rawInt f) .none (← entryPlaceOf f (head != .none)))) :=
      Tame.bind (tame_frameOf _) fun _ => Tame.bind (tame_entryPlace _ _) fun _ => Tame.bind (tame_newEntry ..) fun _ => tame_setField _ _ _
    split
    · refine Tame.bind (tame_field _ _) fun x => ?_
      split
      · exact trivial
      · exact Tame.bind (tame_setField _ _ _) fun _ => tail
    · exact tail
theorem tame_leaving (env : Env) (e : Value) : Tame (leaving env e) := Tame.bind (tame_noteFrame e env) fun _ => tame_setFlight e none
end Mine
end

section
open PySem PySem.W PyProof.Rows PySem.Calls
namespace Mine

/-- a new NetrcParseError with these fields has come out of a call, the frames l above -/
noncomputable def Fallen (base : Heap) (l : List Env) (m f : Str) (ln : Int) (s₀ : Heap) (e : Addr) (h : Heap) : Prop :=
  ∃ G dx es n t1 t2 t3, Hext base s₀ G ∧ Fly base G l e (.ref 83) h ∧ s₀.get? e = none ∧ s₀.get? dx = none ∧ (∃ o : Obj, h.objs[e]? = some o ∧ o.cls = .ref 83 ∧ o.dict = some dx) ∧ G.get? dx = some (dictOf es n) ∧
    getL "msg" es = some (some (.str m t1)) ∧ getL "filename" es = some (some (.str f t2)) ∧ getL "lineno" es = some (some (.int ln t3))

noncomputable def FnR (prog : Program) (w : World) (K : Frag) (base : Heap) (n : Nat) (fa : Addr) (ds : List PyData) (m f : Str) (ln : Int) : Prop :=
  ∀ d A Y s E vs l, d + n ≤ 500 → Wd K base d A s.heap → (∀ a ∈ Y, ∃ o, s.heap.get? a = some o) → RepAll Y s.heap vs ds → A.frames = some l → (∀ e h' tk, Fallen base l m f ln s.heap e h' → E (.ref e) { s with heap := h', toks := tk }) →
    wpAny (model prog w) A (call (.ref fa) vs) (fun _ _ => False) E s

section
variable {prog : Program} {w : World} {base : Heap} {n : Nat} {fa : Addr} {fd : FuncData} {body : List Stmt} {ps : List Str} {ds : List PyData} {m f : Str} {ln : Int} {P : Params}

theorem Fallen.obj {l : List Env} {s₀ h : Heap} {e : Addr} (F : Fallen base l m f ln s₀ e h) (hc : ∀ a ∈ l.filterMap (·.frame), ∃ o, s₀.get? a = some o) :
    ∃ ox dx es n t1 t2 t3, InstAt h e ox 83 (some (dictOf es n)) ∧ ox.dict = some dx ∧ s₀.get? dx = none ∧ getL "msg" es = some (some (.str m t1)) ∧ getL "filename" es = some (some (.str f t2)) ∧ getL "lineno" es = some (some (.int ln t3)) := by
  obtain ⟨G, dx, es, n, t1, t2, t3, k, fl, ne, ndx, ⟨o, q1, q2, q3⟩, hG, g1, g2, g3⟩ := F
  obtain ⟨⟨B, a0, b1, b2, f1, f2, f3, f4⟩, up⟩ := fl
  obtain ⟨oe, vs, T, oT, ts, he, ⟨hcl, _⟩, hdat, _⟩ := f4
  obtain rfl : o = oe := by
    have := (Heap.get?_some_iff.mp he).1
    rw [q1] at this; exact Option.some.inj this
  have hdx : h.get? dx = some (dictOf es n) := f1 dx _ (b2 dx _ hG fun m => by obtain ⟨o, e⟩ := hc dx m; rw [ndx] at e; cases e)
  refine ⟨o, dx, es, n, t1, t2, t3, ⟨he, hcl, ?_, ?_⟩, q3, ndx, g1, g2, g3⟩
  · unfold notCls; rw [hdat]
  · rw [q3]; exact hdx

theorem fnr_intro (F : FnAt (hd.heap_39 P) fa fd body ps) (hl : ps.length = ds.length) (hn : 1 ≤ n)
    (hb : ∀ d L, d + n ≤ 500 → ExR prog w (hd.heap_39 P) base (d + 1) (callEnvC fd L fa) (fzs (ps.zip ds)) body m f ln) : FnR prog w (hd.heap_39 P) base n fa ds m f ln := fun d A Y s E vs l hdn W hY hr hfr hQ => by
  obtain ⟨oc, od, osl, hK⟩ := F.at_
  have hlen := hr.length
  obtain ⟨l', hl', hf, hcl⟩ := W.fr
  obtain rfl : l = l' := by rw [hfr] at hl'; exact Option.some.inj hl'
  have hkk : ∀ x ∈ ps.zip vs, fd.scope.names.lookup x.1 = some .local ∨ (fd.scope.names.lookup x.1 = some .cell ∧ ((cellsFrom (s.heap.objs.size + 1) fd.scope.names []).lookup x.1).isSome = true) := fun x hx => by
    have hxp : x.1 ∈ ps := (List.of_mem_zip hx).1
    rcases F.psK x.1 hxp with hk | hk
    · exact .inl hk
    · obtain ⟨c, hc⟩ := cells_some (n := s.heap.objs.size + 1) F.nodup hk
      exact .inr ⟨hk, by rw [hc]; rfl⟩
  refine wpAny_call (call_cells_c (fd := fd) W.room (W.K _ _ hK) rfl W.nolim (codeRec_of W.K F.code) F.body (F.bind s W.K vs (by omega)) F.clos hkk (fun s₁ X c => ?_) F.coro F.gen F.kind)
  obtain ⟨h₁, t₁, rfl⟩ := X.toInCall.same
  have S := entry_st (base := base) (bs := ds.map Bnd.fz) F (by rw [List.length_map]; exact hl) hY (allB_of hr) X
  rw [fzs_zip] at S
  have W1 := entry_wd F W (by omega) X.toInCall.ns X.toInCall.keep c
  have nL : s.heap.get? s.heap.objs.size = none := none_at _
  refine wpAny_mono (hb d _ hdn _ Y _ s.heap _ _ W1 W.stays S PassesOwn.leaving fun h' tk e r => ?_) (fun f s₂ q => q.elim) fun _ _ x => x
  obtain ⟨k, ⟨mm, hns⟩, dx, t1, t2, t3, ne, ndx, hde, hdl, t, es, n', he, hdx, g1, g2, g3⟩ := r
  have hLenv : (callEnvC fd s.heap.objs.size fa).locals = s.heap.objs.size := rfl
  rw [hLenv] at hns hdl
  -- what is kept: all but the frame and the exception
  have kG : ∀ b o, (hideAll h' [s.heap.objs.size, e]).get? b = some o → h'.get? b = some o := fun b o q => of_hideAll _ q
  have G0 : ∀ b, s.heap.get? b = none ∨ b ∉ [s.heap.objs.size, e] := fun b => by
    by_cases m : b ∈ [s.heap.objs.size, e]
    · rcases List.mem_cons.mp m with rfl | m
      · exact .inl nL
      · rw [List.mem_singleton.mp m]; exact .inl ne
    · exact .inr m
  have kx : Hext base s.heap (hideAll h' [s.heap.objs.size, e]) := fun b o _ q => by
    have nm : b ∉ [s.heap.objs.size, e] := (G0 b).resolve_left fun z => by rw [q] at z; cases z
    rcases k b o (fun m => nomatch m) q with r | ⟨r1, r2, sl, r3⟩
    · exact .inl (hideAll_get _ r nm)
    · exact .inr ⟨r1, r2, sl, hideAll_get _ r3 nm⟩
  have hG : (hideAll h' [s.heap.objs.size, e]).FunFrames base l := hf.of_keeps fun b o q _ => let ⟨o', q1, q2, _⟩ := kx.up (fun m => nomatch m) q; ⟨o', q1, q2⟩
  have hdxG : (hideAll h' [s.heap.objs.size, e]).get? dx = some (dictOf es n') := hideAll_get _ hdx fun m => by
    rcases List.mem_cons.mp m with q | m
    · exact hdl q
    · exact hde (List.mem_singleton.mp m)
  refine wpAny_mono (wpAny_tame (tame_leaving _ _) (leave_new (base := base) (G := hideAll h' [s.heap.objs.size, e]) (L := s.heap.objs.size) (E := fun _ _ => False) (Q := fun _ s'' => ∃ h'', s'' = { s with heap := h'', toks := tk } ∧ Fly base (hideAll h' [s.heap.objs.size, e]) l e (.ref 83) h'') (Around.frames_deeper hfr) rfl (by show fd.scope.kind ≠ .module; rw [F.kind]; decide) (kx.stays (fun _ m => nomatch m) W.stays) hG kG (hideAll_none _ (.head _)) ?_ he (hideAll_none _ (.tail _ (.head _))) rfl rfl rfl fun h'' Fl => ⟨h'', rfl, Fl⟩)) (fun _ s'' q => ?_) fun _ _ x => x.1.elim
  · obtain ⟨o, es0, ep, e1, e2, _⟩ := hns
    exact ⟨o, e1, fun vs q => by rw [e2] at q; cases q⟩
  · obtain ⟨⟨h'', rfl, Fl⟩, dk⟩ := q
    refine hQ e h'' tk ⟨_, dx, es, n', t1, t2, t3, kx, Fl, ne, ndx, ?_, hdxG, g1, g2, g3⟩
    obtain ⟨o', q1, q2, q3⟩ := dk e _ (Heap.get?_some_iff.mp he).1
    exact ⟨o', q1, q2, q3⟩
end
end Mine
end

section
open PySem PySem.W PyProof.Rows PySem.Calls
namespace Mine

/-! labels and names -/
noncomputable def labH (hs : List Host) (a : Nat) : List Str := (hs.getD a ([], 0)).1
theorem take_min_iff {α : Type} (A B : List α) : A.take (min A.length B.length) = B.take (min A.length B.length) ↔ A <+: B ∨ B <+: A := by
  rcases Nat.le_total A.length B.length with h | h
  · rw [Nat.min_eq_left h, List.take_length]
    constructor
    · intro e; exact .inl (List.prefix_iff_eq_take.mpr e)
    · rintro (e | e)
      · exact List.prefix_iff_eq_take.mp e
      · have hl := e.length_le
        have : B = A := e.eq_of_length (by omega)
        rw [this, List.take_length]
  · rw [Nat.min_eq_right h, List.take_length]
    constructor
    · intro e; exact .inr (List.prefix_iff_eq_take.mpr e.symm)
    · rintro (e | e)
      · have hl := e.length_le
        have : A = B := e.eq_of_length (by omega)
        rw [this, List.take_length]
      · exact (List.prefix_iff_eq_take.mp e).symm
theorem cmpH_iff {hs : List Host} {a b : Nat} : cmpH hs a b = true ↔ labH hs a <+: labH hs b ∨ labH hs b <+: labH hs a := by
  unfold cmpH labH
  dsimp only
  rw [decide_eq_true_iff, take_min_iff]

theorem aheadH_anti (hs : List Host) (a b : Nat) (h : aheadH hs a b = true) : aheadH hs b a = false := by
  unfold aheadH at h ⊢
  by_cases h1 : a < b
  · have h2 : ¬ b < a := by omega
    rw [if_pos h1, Bool.and_eq_true] at h
    rw [if_neg h2, if_pos h1, h.1, h.2]; rfl
  · rw [if_neg h1] at h
    by_cases h2 : b < a
    · rw [if_pos h2, Bool.and_eq_true] at h
      rw [if_pos h2, h.1]
      simpa using h.2
    · rw [if_neg h2] at h; cases h
theorem aheadH_cmp (hs : List Host) (a b : Nat) (hne : a ≠ b) (h : labH hs a <+: labH hs b ∨ labH hs b <+: labH hs a) : aheadH hs a b = true ∨ aheadH hs b a = true := by
  unfold aheadH
  by_cases h1 : a < b
  · have h2 : ¬ b < a := by omega
    rw [if_pos h1, if_neg h2, if_pos h1, cmpH_iff.mpr h]
    cases bitH hs a b <;> simp
  · have h2 : b < a := by omega
    rw [if_neg h1, if_pos h2, if_pos h2, cmpH_iff.mpr h.symm]
    cases bitH hs b a <;> simp
theorem aheadH_pre (hs : List Host) (a b : Nat) (h : aheadH hs a b = true) : labH hs a <+: labH hs b ∨ labH hs b <+: labH hs a := by
  unfold aheadH at h
  by_cases h1 : a < b
  · rw [if_pos h1, Bool.and_eq_true] at h
    exact cmpH_iff.mp h.1
  · rw [if_neg h1] at h
    by_cases h2 : b < a
    · rw [if_pos h2, Bool.and_eq_true] at h
      exact (cmpH_iff.mp h.1).symm
    · rw [if_neg h2] at h; cases h

/-! the pairs that the law makes -/
noncomputable def pairB (hs : List Host) (b m : Nat) : List (Nat × Nat) := ((List.range m).filter fun a => cmpH hs a b).map fun a => if bitH hs a b = true then (a, b) else (b, a)
noncomputable def pairsTo (hs : List Host) (n : Nat) : List (Nat × Nat) := (List.range n).flatMap fun b => pairB hs b b
theorem mem_pairB {hs : List Host} {b m : Nat} {p : Nat × Nat} : p ∈ pairB hs b m ↔ ∃ a, a < m ∧ cmpH hs a b = true ∧ p = (if bitH hs a b = true then (a, b) else (b, a)) := by
  unfold pairB
  rw [List.mem_map]
  constructor
  · rintro ⟨a, ha, rfl⟩
    obtain ⟨h1, h2⟩ := List.mem_filter.mp ha
    exact ⟨a, List.mem_range.mp h1, h2, rfl⟩
  · rintro ⟨a, h1, h2, rfl⟩
    exact ⟨a, List.mem_filter.mpr ⟨List.mem_range.mpr h1, h2⟩, rfl⟩
theorem mem_pairs {hs : List Host} {n x y : Nat} : (x, y) ∈ pairsTo hs n ↔ x < n ∧ y < n ∧ aheadH hs x y = true := by
  unfold pairsTo
  rw [List.mem_flatMap]
  constructor
  · rintro ⟨b, hb, hp⟩
    have hb' := List.mem_range.mp hb
    obtain ⟨a, h1, h2, e⟩ := mem_pairB.mp hp
    by_cases q : bitH hs a b = true
    · rw [if_pos q] at e
      obtain ⟨rfl, rfl⟩ := Prod.mk.inj e
      refine ⟨by omega, hb', ?_⟩
      unfold aheadH
      rw [if_pos h1, h2, q]; rfl
    · rw [if_neg q] at e
      obtain ⟨rfl, rfl⟩ := Prod.mk.inj e
      refine ⟨hb', by omega, ?_⟩
      have h3 : ¬ x < y := by omega
      unfold aheadH
      rw [if_neg h3, if_pos h1, h2]
      simpa using q
  · rintro ⟨hx, hy, h⟩
    unfold aheadH at h
    by_cases h1 : x < y
    · rw [if_pos h1, Bool.and_eq_true] at h
      exact ⟨y, List.mem_range.mpr hy, mem_pairB.mpr ⟨x, h1, h.1, by rw [if_pos h.2]⟩⟩
    · rw [if_neg h1] at h
      by_cases h2 : y < x
      · rw [if_pos h2, Bool.and_eq_true] at h
        refine ⟨x, List.mem_range.mpr hx, mem_pairB.mpr ⟨y, h2, h.1, ?_⟩⟩
        have : ¬ bitH hs y x = true := by simpa using h.2
        rw [if_neg this]
      · rw [if_neg h2] at h; cases h
theorem pair_max {hs : List Host} {b : Nat} {p : Nat × Nat} (h : p ∈ pairB hs b b) : max p.1 p.2 = b := by
  obtain ⟨a, h1, _, rfl⟩ := mem_pairB.mp h
  by_cases q : bitH hs a b = true
  · rw [if_pos q]; show max a b = b; omega
  · rw [if_neg q]; show max b a = b; omega
theorem pairs_nodup (hs : List Host) (n : Nat) : (pairsTo hs n).Nodup := by
  unfold pairsTo
  refine List.pairwise_flatMap.mpr ⟨fun b _ => ?_, ?_⟩
  · unfold pairB
    rw [List.pairwise_map]
    refine (List.pairwise_lt_range.filter _).imp fun {x y} h e => ?_
    have h : x < y := h
    split at e <;> split at e <;> obtain ⟨e1, e2⟩ := Prod.mk.inj e <;> omega
  · refine List.pairwise_lt_range.imp fun {x y} h p hp q hq e => ?_
    have h : x < y := h
    have h1 := pair_max hp
    have h2 := pair_max hq
    rw [e] at h1
    omega
theorem pairs_count (hs : List Host) (n k : Nat) (hk : k < n) : ((pairsTo hs n).filter fun p => decide (p.2 = k)).length = cnt n (aheadH hs) [] k := by
  have hn := (pairs_nodup hs n).filter fun p => decide (p.2 = k)
  have h2 : (((pairsTo hs n).filter fun p => decide (p.2 = k)).map Prod.fst).Perm ((List.range n).filter fun a => aheadH hs a k && !([] : List Nat).contains a) := by
    refine (List.perm_ext_iff_of_nodup ?_ (List.nodup_range.filter _)).mpr fun a => ?_
    · rw [List.Nodup, List.pairwise_map]
      refine hn.imp_of_mem fun {x y} hx hy hne e => hne ?_
      have h1 := of_decide_eq_true (List.mem_filter.mp hx).2
      have h3 := of_decide_eq_true (List.mem_filter.mp hy).2
      exact Prod.ext e (h1.trans h3.symm)
    · rw [List.mem_map, List.mem_filter, List.mem_range]
      constructor
      · rintro ⟨⟨x, y⟩, hp, rfl⟩
        obtain ⟨h1, h3⟩ := List.mem_filter.mp hp
        have h3 : y = k := of_decide_eq_true h3
        subst h3
        obtain ⟨q1, _, q3⟩ := mem_pairs.mp h1
        exact ⟨q1, by rw [q3]; rfl⟩
      · rintro ⟨h1, h3⟩
        rw [Bool.and_eq_true] at h3
        exact ⟨(a, k), List.mem_filter.mpr ⟨mem_pairs.mpr ⟨h1, hk, h3.1⟩, decide_eq_true rfl⟩, rfl⟩
  have := h2.length_eq
  rw [List.length_map] at this
  exact this

/-! what _law_line gives -/
noncomputable def leftOf (n : Nat) (gone : List Nat) : List Nat := (List.range n).filter fun k => decide (k ∉ gone)
noncomputable def lineText (names : List Str) (n : Nat) (ps : List (Nat × Nat)) : Str :=
  if goes n ps = n then wordsD names (lineTo n ps n).2.2
  else wordsD names (leftOf n (lineTo n ps n).2.2) ++ " (" ++ wordsD names (lineTo n ps n).2.2 ++ ", line " ++ (toString (goes n ps : Int) : Str) ++ ")"

theorem told_due (hs : List Host) (names : List Str) : lineText names hs.length (pairsTo hs hs.length) = dueText names (lostTo hs.length (aheadH hs) hs.length) (goneTo hs.length (aheadH hs) (lostTo hs.length (aheadH hs) hs.length) hs.length) := by
  have hps : ∀ a k, a < hs.length → k < hs.length → ((a, k) ∈ pairsTo hs hs.length ↔ aheadH hs a k = true) := fun a k ha hk => by
    rw [mem_pairs]; exact ⟨fun h => h.2.2, fun h => ⟨ha, hk, h⟩⟩
  have hc := fun k hk => pairs_count hs hs.length k hk
  have I := lineTo_inv hps hc hs.length
  have hQ := line_out hps hc
  have hg : goes hs.length (pairsTo hs hs.length) = (lineTo hs.length (pairsTo hs hs.length) hs.length).2.2.length := rfl
  rw [hQ] at I
  unfold lineText
  rw [hg]
  generalize (lineTo hs.length (pairsTo hs hs.length) hs.length).2.2 = O at *
  have hO : Order hs.length (aheadH hs) O := by
    obtain ⟨_, _, h3, h4, h5, h6, h7⟩ := I
    rw [List.append_nil] at h3 h4 h5 h6 h7
    exact ⟨h3, h4, h5, h6, h7⟩
  have hlost := lost_compl (lab := labH hs) (aheadH_anti hs) (fun a ha b hb hne h => aheadH_cmp hs a b hne h) (aheadH_pre hs) hO
  rw [rounds_all hO hlost]
  have hleft : lostTo hs.length (aheadH hs) hs.length = leftOf hs.length O := by
    rw [lostTo_filter]
    unfold leftOf
    refine List.filter_congr fun k hk => ?_
    rw [Bool.eq_iff_iff, decide_eq_true_iff, decide_eq_true_iff]
    exact hlost k (List.mem_range.mp hk)
  have hlen := hO.len
  unfold dueText
  rw [hleft]
  by_cases h : O.length = hs.length
  · have : leftOf hs.length O = [] := by
      refine List.filter_eq_nil_iff.mpr fun k hk q => ?_
      have q := of_decide_eq_true q
      have hsub : (k :: O).length ≤ (List.range hs.length).length := List.Nodup.length_le_of_subset (List.nodup_cons.mpr ⟨q, hO.nodup⟩) fun x hx => by
        rcases List.mem_cons.mp hx with rfl | hx
        · exact hk
        · exact List.mem_range.mpr (hO.lt x hx)
      rw [List.length_cons, List.length_range] at hsub
      omega
    rw [if_pos h, if_pos this]
  · have : leftOf hs.length O ≠ [] := fun e => by
      have hsub : (List.range hs.length).length ≤ O.length := List.Nodup.length_le_of_subset List.nodup_range fun x hx => Decidable.byContradiction fun q => by
        have : x ∈ leftOf hs.length O := List.mem_filter.mpr ⟨hx, decide_eq_true q⟩
        rw [e] at this; cases this
      rw [List.length_range] at hsub
      omega
    rw [if_neg h, if_neg this]

/-! names -/
theorem split_last {a b a' b' : List Nat} {x : Nat} (hb : x ∉ b) (hb' : x ∉ b') (h : a ++ x :: b = a' ++ x :: b') : a = a' ∧ b = b' := by
  rcases List.append_eq_append_iff.mp h with ⟨c, h1, h2⟩ | ⟨c, h1, h2⟩
  · cases c with
    | nil => simp at h1 h2; exact ⟨h1.symm, h2⟩
    | cons y c =>
      rw [List.cons_append] at h2
      obtain ⟨rfl, h3⟩ := List.cons.inj h2
      exact absurd (h3 ▸ List.mem_append_right c (.head _)) hb
  · cases c with
    | nil => simp at h1 h2; exact ⟨h1, h2.symm⟩
    | cons y c =>
      rw [List.cons_append] at h2
      obtain ⟨rfl, h3⟩ := List.cons.inj h2
      exact absurd (h3 ▸ List.mem_append_right c (.head _)) hb'
theorem lab_nodot {l : Str} (h : Lab l) : 46 ∉ l.cps.toList := fun m => by
  have := h.dig 46 m
  revert this
  decide +kernel
theorem str_ext {x y : Str} (h : x.cps.toList = y.cps.toList) : x = y := by
  obtain ⟨⟨x⟩⟩ := x
  obtain ⟨⟨y⟩⟩ := y
  have : x = y := h
  rw [this]
theorem hj_head : ∀ ls : List Str, (hj ls).cps.toList.head? = some 104 := fun ls => by
  have : ∀ r : List Str, ∃ t, (hj r.reverse).cps.toList = 104 :: t := fun r => by
    induction r with
    | nil => exact ⟨[], by decide⟩
    | cons l r ih =>
      obtain ⟨t, ht⟩ := ih
      rw [List.reverse_cons, hj_snoc, ht]
      exact ⟨_, rfl⟩
  obtain ⟨t, ht⟩ := this ls.reverse
  rw [List.reverse_reverse] at ht
  rw [ht]; rfl
theorem hj_inj : ∀ (n : Nat) (la lb : List Str), la.length ≤ n → (∀ l ∈ la, Lab l) → (∀ l ∈ lb, Lab l) → hj la = hj lb → la = lb
  | n, la, lb, hn, ha, hb, h => by
    have len2 : ∀ (ls : List Str) (l : Str), (hj (ls ++ [l])).length ≠ 1 := fun ls l => by
      rw [hj_len_snoc]
      have : (hj ls).length ≠ 0 := fun q => by
        have h1 : (hj ls).cps.toList = [] := List.length_eq_zero_iff.mp (by rw [Array.length_toList]; exact q)
        have h2 := hj_head ls
        rw [h1] at h2; cases h2
      omega
    rcases List.eq_nil_or_concat la with rfl | ⟨la', l, rfl⟩
    · rcases List.eq_nil_or_concat lb with rfl | ⟨lb', l', rfl⟩
      · rfl
      · rw [List.concat_eq_append] at h
        exact absurd (by rw [← h]; decide) (len2 lb' l')
    · rcases List.eq_nil_or_concat lb with rfl | ⟨lb', l', rfl⟩
      · rw [List.concat_eq_append] at h
        exact absurd (by rw [h]; decide) (len2 la' l)
      · simp only [List.concat_eq_append] at *
        have e := congrArg (fun x : Str => x.cps.toList) h
        simp only [hj_snoc] at e
        obtain ⟨e1, e2⟩ := split_last (lab_nodot (ha l (by simp))) (lab_nodot (hb l' (by simp))) e
        rw [List.length_append, List.length_singleton] at hn
        match n, hn with
        | n + 1, hn =>
          rw [hj_inj n la' lb' (by omega) (fun x hx => ha x (List.mem_append_left _ hx)) (fun x hx => hb x (List.mem_append_left _ hx)) (str_ext e1), str_ext e2]
theorem hj_nofail (ls : List Str) : hj ls ≠ failText := fun e => by
  have := hj_head ls
  rw [e] at this
  revert this
  decide +kernel
/-- a name lies on the ladder of another, below its top -/
theorem on_ladder {la lb : List Str} (ha : ∀ l ∈ la, Lab l) (hb : ∀ l ∈ lb, Lab l) (h3 : lb.length ≤ 3) : (∃ i, 1 ≤ i ∧ i < 5 ∧ rungL lb i = hj la) ↔ la <+: lb ∧ la ≠ lb := by
  constructor
  · rintro ⟨i, h1, h2, e⟩
    unfold rungL at e
    by_cases q : i ≤ lb.length
    · rw [if_pos q] at e
      have := hj_inj _ _ _ (Nat.le_refl _) (fun l hl => hb l (List.mem_of_mem_take hl)) ha e
      rw [← this]
      refine ⟨List.take_prefix .., fun e => ?_⟩
      have := congrArg List.length e
      rw [List.length_take] at this
      omega
    · rw [if_neg q] at e
      exact absurd e.symm (hj_nofail la)
  · rintro ⟨h1, h2⟩
    have hl := h1.length_le
    have hlt : la.length < lb.length := Nat.lt_of_le_of_ne hl fun e => h2 (h1.eq_of_length e)
    refine ⟨lb.length - la.length, by omega, by omega, ?_⟩
    unfold rungL
    rw [if_pos (by omega), show lb.length - (lb.length - la.length) = la.length by omega, ← List.prefix_iff_eq_take.mp h1]
theorem names_nodup {hs : List Host} (G : GoodH hs) : (namesOf hs).Nodup := by
  unfold namesOf
  rw [List.Nodup, List.pairwise_map]
  have := G.nodup
  rw [List.Nodup, List.pairwise_map] at this
  exact this.imp_of_mem fun {x y} hx hy hne e => hne (hj_inj _ _ _ (Nat.le_refl _) (G.lab x hx).1 (G.lab y hy).1 e)
end Mine
end

section
open PySem PySem.W PyProof.Rows PySem.Calls
namespace Mine
theorem hostsF_good {f : Str} (seeds : List Int) : (∀ h ∈ hostsF f seeds, 0 ≤ h.2 ∧ h.2 < 2 ^ 30) ∧ ((hostsF f seeds).map Prod.fst).Nodup := by
  have : ∀ (seeds : List Int) (hs : List Host), ((∀ h ∈ hs, 0 ≤ h.2 ∧ h.2 < 2 ^ 30) ∧ (hs.map Prod.fst).Nodup) → (∀ h ∈ seeds.foldl (hostsStep f) hs, 0 ≤ h.2 ∧ h.2 < 2 ^ 30) ∧ ((seeds.foldl (hostsStep f) hs).map Prod.fst).Nodup := by
    intro seeds
    induction seeds with
    | nil => intro hs h; exact h
    | cons s r ih =>
      intro hs h
      rw [List.foldl_cons]
      refine ih _ ?_
      unfold hostsStep
      split
      · exact h
      · rename_i hn
        refine ⟨fun x hx => ?_, ?_⟩
        · rcases List.mem_append.mp hx with hx | hx
          · exact h.1 x hx
          · rw [List.mem_singleton.mp hx]
            show 0 ≤ s % 1000000 / 32 ∧ s % 1000000 / 32 < 2 ^ 30
            omega
        · rw [List.map_append]
          refine List.nodup_append.mpr ⟨h.2, by simp, fun a ha b hb e => hn ?_⟩
          rw [List.map_cons, List.map_nil, List.mem_singleton] at hb
          have hb : b = labsOf f (s % 1000000) := hb
          rw [← hb, ← e]; exact ha
  exact this seeds [] (And.intro (fun _ m => nomatch m) List.nodup_nil)
theorem goodH_hosts (ns : List Int) : GoodH (hostsOf ns) :=
  ⟨Nat.le_trans (hostsF_len _ _) (by rw [seedsAt_len]; exact Nat.le_refl _), hostsF_lab (lab_fig _) _, (hostsF_good _).1, (hostsF_good _).2⟩
end Mine
end

section
open PySem PySem.W PyProof.Rows PySem.Calls
namespace Mine

noncomputable def forBody : Stmt → List Stmt
  | .For _ _ b _ _ => b
  | _ => []
noncomputable def stAt (P : Params) (fa : Addr) (i : Nat) : Stmt := ((bodyOf (fdP P fa))[i]?).getD (.Pass ⟨0, 0, 0, 0⟩)

noncomputable def strsN (names : List Str) (l : List Nat) : List PyData := (l.map fun b => names.getD b ⟨#[]⟩).map PyData.str
noncomputable def intsD (l : List Int) : List PyData := l.map PyData.int
noncomputable def pairN (p : Nat × Nat) : PyData := pairD ((p.1 : Int), (p.2 : Int))
noncomputable def pairsN (ps : List (Nat × Nat)) : List PyData := ps.map pairN
theorem strsN_len (names : List Str) (l : List Nat) : (strsN names l).length = l.length := by unfold strsN; rw [List.length_map, List.length_map]
theorem strsN_app (names : List Str) (a b : List Nat) : strsN names (a ++ b) = strsN names a ++ strsN names b := by unfold strsN; rw [List.map_append, List.map_append]
theorem strsN_flat (names : List Str) (l : List Nat) : ∀ dd ∈ strsN names l, Flat dd := fun dd h => by
  obtain ⟨i, _, rfl⟩ := List.mem_map.mp h; trivial
theorem strsN_empty (names : List Str) (l : List Nat) : (strsN names l).isEmpty = l.isEmpty := by cases l <;> rfl
theorem strsN_range (names : List Str) : strsN names (List.range names.length) = names.map PyData.str := by
  unfold strsN
  congr 1
  apply List.ext_getElem?
  intro k
  rw [List.getElem?_map]
  by_cases hk : k < names.length
  · rw [List.getElem?_range hk, List.getElem?_eq_getElem hk]
    show some (names.getD k _) = _
    rw [List.getD_eq_getElem?_getD, List.getElem?_eq_getElem hk]; rfl
  · rw [List.getElem?_eq_none (by rw [List.length_range]; omega), List.getElem?_eq_none (by omega)]; rfl
theorem any_pair (ps : List (Nat × Nat)) (g k : Nat) : ((pairsN ps).any fun y => PyData.eqv y (pairN (g, k))) = decide ((g, k) ∈ ps) := by
  rw [Bool.eq_iff_iff, List.any_eq_true, decide_eq_true_iff]
  constructor
  · rintro ⟨y, hy, e⟩
    obtain ⟨p, hp, rfl⟩ := List.mem_map.mp hy
    unfold pairN pairD at e
    simp only [PyData.eqv, PyData.eqvAll, Bool.and_eq_true, beq_iff_eq, Bool.and_true] at e
    have e1 : p.1 = g := by omega
    have e2 : p.2 = k := by omega
    obtain ⟨a, b⟩ := p
    dsimp only at e1 e2
    subst e1 e2
    exact hp
  · intro h
    refine ⟨pairN (g, k), List.mem_map.mpr ⟨_, h, rfl⟩, ?_⟩
    unfold pairN pairD
    simp [PyData.eqv, PyData.eqvAll]
theorem ok_pairs (ps : List (Nat × Nat)) : OkD 2 (.list (pairsN ps)) := ok_list fun d hd => by
  obtain ⟨p, _, rfl⟩ := List.mem_map.mp hd
  exact ok_tuple fun x hx => by
    rcases List.mem_cons.mp hx with rfl | hx
    · exact ok_int _
    · rw [List.mem_singleton.mp hx]; exact ok_int _
theorem ok_pair (p : Nat × Nat) : OkD 1 (pairN p) := ok_tuple fun x hx => by
    rcases List.mem_cons.mp hx with rfl | hx
    · exact ok_int _
    · rw [List.mem_singleton.mp hx]; exact ok_int _

structure GoodN (names : List Str) : Prop where
  len : names.length ≤ 6
  nodup : names.Nodup
  le : ∀ nm ∈ names, nm.length ≤ 124
  ok : ∀ nm ∈ names, PyData.strOk nm = true
theorem hj_ok {ls : List Str} (h : ∀ l ∈ ls, Lab l) : PyData.strOk (hj ls) = true := by
  have : ∀ r : List Str, (∀ l ∈ r, Lab l) → PyData.strOk (hj r.reverse) = true := fun r => by
    induction r with
    | nil => intro _; decide +kernel
    | cons l r ih =>
      intro h
      have h1 := ih fun x hx => h x (.tail _ hx)
      have h2 := (h l (.head _)).ok
      unfold PyData.strOk at h1 h2 ⊢
      rw [← Array.all_toList, List.all_eq_true] at h1 h2 ⊢
      intro c hc
      rw [List.reverse_cons, hj_snoc] at hc
      rcases List.mem_append.mp hc with hc | hc
      · exact h1 c hc
      · rcases List.mem_cons.mp hc with rfl | hc
        · decide +kernel
        · exact h2 c hc
  have := this ls.reverse fun l hl => h l (List.mem_reverse.mp hl)
  rwa [List.reverse_reverse] at this
theorem goodN {hs : List Host} (G : GoodH hs) : GoodN (namesOf hs) := by
  refine ⟨by unfold namesOf; rw [List.length_map]; exact G.len, names_nodup G, fun nm hnm => ?_, fun nm hnm => ?_⟩
  · obtain ⟨h, hh, rfl⟩ := List.mem_map.mp hnm
    have h1 := G.lab h hh
    have h2 := hj_len h.1.length h.1 rfl h1.1
    have h3 := h1.2
    omega
  · obtain ⟨h, hh, rfl⟩ := List.mem_map.mp hnm
    exact hj_ok (G.lab h hh).1
theorem GoodN.oks {names : List Str} (G : GoodN names) : OkD 1 (.list (names.map PyData.str)) := ok_list fun d hd => by
  obtain ⟨l, hl, rfl⟩ := List.mem_map.mp hd
  exact ok_str (G.ok l hl)
theorem GoodN.okn {names : List Str} (G : GoodN names) {l : List Nat} (h : ∀ k ∈ l, k < names.length) : OkD 1 (.list (strsN names l)) := ok_list fun d hd => by
  obtain ⟨x, hx, rfl⟩ := List.mem_map.mp hd
  obtain ⟨k, hk, rfl⟩ := List.mem_map.mp hx
  exact ok_str (G.ok _ (getD_mem (h k hk)))

theorem fnAt_line (P : Params) : FnAt (hd.heap_39 P) 145 (fdP P 145) (bodyOf (fdP P 145)) ["names", "pairs"] :=
  ⟨⟨_, _, _, rfl⟩, rfl, rfl, rfl, by kernel_rfl, rfl, bind_of2 fun _ x y => binds_np x y ⟨rfl, rfl, rfl, rfl, rfl⟩ rfl, by decide +kernel, psB_k (by kernel_rfl), scopeB_n (by kernel_rfl), scopeB_f (by kernel_rfl), rfl, rfl, rfl⟩

theorem execs_app (env : Env) : ∀ a b : List Stmt, execs (a ++ b) env = (do match ← execs a env with | .next => execs b env | f => pure f)
  | [], b => rfl
  | st :: a, b => by
    show execs (st :: (a ++ b)) env = _
    rw [execs_cons, execs_cons, execs_app env a b, bind_assoc]
    congr 1
    funext f
    cases f <;> rfl
theorem wpAny_execs_app {M : Model} {A : Around} {E : Value → Shared → Prop} {s : Shared} {env : Env} {a b : List Stmt} {Q : Flow → Shared → Prop}
    (h : wpAny M A (execs a env) (fun f s' => match f with | .next => wpAny M A (execs b env) Q E s' | f => Q f s') E s) : wpAny M A (execs (a ++ b) env) Q E s := by
  rw [execs_app]
  refine wpAny_bind (wpAny_mono h (fun f s' h' => ?_) fun _ _ x => x)
  cases f <;> first | exact h' | exact wpAny_pure h'

section
variable {prog : Program} {w : World} {K : Frag} {base : Heap} {d : Nat} {env : Env} {ρ ρ' : List (Str × Bnd)} {o : Out} {m f : Str} {l : Int} {s1 s2 : List Stmt}
theorem ex_app (h1 : Ex prog w K base d env ρ s1 (.next ρ')) (h2 : Ex prog w K base d env ρ' s2 o) : Ex prog w K base d env ρ (s1 ++ s2) o := fun A Y M h₀ s E W B S => by
  refine wpAny_execs_app (wpAny_mono (h1 A Y M h₀ s E W B S) (fun f s₁ q => ?_) fun _ _ x => x)
  obtain ⟨h', tk, rfl, ⟨rfl, M', S', hM⟩, C⟩ := q
  refine wpAny_mono (h2 A Y M' h₀ _ E (W.step (S'.keep.stays (fun _ m => nomatch m) B) C.fr) B S') (fun f s₂ q => ?_) fun _ _ x => x
  obtain ⟨h'', tk', rfl, F, C'⟩ := q
  refine ⟨h'', tk', rfl, ?_, C.trans C' hM⟩
  cases o with
  | next ρ₂ =>
    obtain ⟨rfl, M'', S'', hM'⟩ := F
    exact ⟨rfl, M'', S'', C.back hM hM'⟩
  | ret dd => exact F
theorem exr_app (h1 : Ex prog w K base d env ρ s1 (.next ρ')) (h2 : ExR prog w K base d env ρ' s2 m f l) : ExR prog w K base d env ρ (s1 ++ s2) m f l := fun A Y M h₀ s E W B S hE hQ => by
  refine wpAny_execs_app (wpAny_mono (h1 A Y M h₀ s E W B S) (fun fl s₁ q => ?_) fun _ _ x => x)
  obtain ⟨h', tk, rfl, ⟨rfl, M', S', hM⟩, C⟩ := q
  exact h2 A Y M' h₀ _ E (W.step (S'.keep.stays (fun _ m => nomatch m) B) C.fr) B S' hE fun h'' tk' e r => hQ h'' tk' e r
end

/-! _law_line -/
noncomputable def lineρ (names : List Str) (ps : List (Nat × Nat)) (s : LSt) : List (Str × Bnd) :=
  [("gone", .own (strsN names s.2.2)), ("line", .lex 124 (strsN names s.2.1)), ("waits", .own (intsD s.1)), ("names", .fz (.list (names.map PyData.str))), ("pairs", .fz (.list (pairsN ps)))]
noncomputable def innρ (names : List Str) (ps : List (Nat × Nat)) (gone : List Nat) (r : List Int × List Nat) : List (Str × Bnd) :=
  [("line", .lex 124 (strsN names r.2)), ("waits", .own (intsD r.1)), ("gone", .own (strsN names gone)), ("names", .fz (.list (names.map PyData.str))), ("pairs", .fz (.list (pairsN ps)))]

theorem intsD_flat (l : List Int) : ∀ dd ∈ intsD l, Flat dd := fun dd h => by
  obtain ⟨i, _, rfl⟩ := List.mem_map.mp h; trivial
theorem intsD_get {l : List Int} {k : Nat} (h : k < l.length) : (intsD l)[k]? = some (.int (l.getD k 0)) := by
  unfold intsD
  rw [List.getElem?_map, List.getElem?_eq_getElem h, List.getD_eq_getElem?_getD, List.getElem?_eq_getElem h]; rfl
theorem push0_succ (ws : List Int) (m : Nat) : push0 ws (m + 1) = push0 ws m ++ (if ws.getD m 0 = 0 then [m] else []) := by
  unfold push0
  rw [List.range_succ, List.filter_append]
  congr 1
  by_cases h : ws.getD m 0 = 0
  · rw [if_pos h]; show (match decide (ws.getD m 0 = 0) with | true => [m] | false => []) = _; rw [decide_eq_true h]
  · rw [if_neg h]; show (match decide (ws.getD m 0 = 0) with | true => [m] | false => []) = _; rw [decide_eq_false h]
theorem push0_len (ws : List Int) (m : Nat) : (push0 ws m).length ≤ m := Nat.le_trans (List.length_filter_le _ _) (by rw [List.length_range]; exact Nat.le_refl _)
theorem waits0_data (n : Nat) (ps : List (Nat × Nat)) : intsD (waits0 n ps) = (natsD (List.range n)).map fun d => PyData.int (((pairsN ps).filter fun p => PyData.eqv (at1 p) d).length : Int) := by
  unfold intsD waits0 natsD
  rw [List.map_map, List.map_map]
  refine List.map_congr_left fun k _ => ?_
  show PyData.int ((ps.filter fun p => decide (p.2 = k)).length : Int) = PyData.int (((pairsN ps).filter fun p => PyData.eqv (at1 p) (natD k)).length : Int)
  unfold pairsN
  rw [List.filter_map, List.length_map]
  congr 3
  refine List.filter_congr fun p _ => ?_
  show _ = (((p.2 : Int) == (k : Int)) : Bool)
  rw [Bool.eq_iff_iff, decide_eq_true_iff, beq_iff_eq]
  omega

section
variable {prog : Program} {w : World} {base : Heap} {d : Nat} {env : Env} {ρ : List (Str × Bnd)} {P : Params} {x y : Str} {p1 p2 p3 p4 p5 p6 : Pos} {names : List Str}
theorem ev_nameAt {i : Nat} (hx : ρ.lookup x = some (.fz (.list (names.map PyData.str)))) (hy : ρ.lookup y = some (.fz (natD i))) (hi : i < names.length) (hn : names.length ≤ 6)
    (d1 : (x == ("__debug__" : Str)) = false := by decide) (d2 : (y == ("__debug__" : Str)) = false := by decide) : Ev prog w (hd.heap_39 P) base d env ρ (.Subscript (.Name x p1) (.Name y p2) p3) (IsS (.str (names.getD i ⟨#[]⟩))) := by
  refine ev_item (ds := names.map PyData.str) (k := (i : Int)) (ev_fz hx d1).s_l (ev_fz hy d2).s_w (by omega) (by omega) ?_
  rw [Int.toNat_natCast, List.getElem?_map, List.getElem?_eq_getElem hi, List.getD_eq_getElem?_getD, List.getElem?_eq_getElem hi]; rfl
theorem it_rangeLen {fz : Bool} {ds : List PyData} {n : Nat} (hx : ρ.lookup x = some (.fz (.list ds))) (hl : ds.length = n) (hn : n ≤ 6) (g1 : env.kindOf "len" = some .globalImplicit) (g2 : env.kindOf "range" = some .globalImplicit)
    (d1 : (x == ("__debug__" : Str)) = false := by decide) : EvIt prog w (hd.heap_39 P) base d env ρ (.Call (.Name "range" p1) [.Call (.Name "len" p2) [.Name x p3] [] p4] [] p5) (natsD (List.range n)) fz := by
  have e : natsD (List.range n) = (List.range ((n : Nat) : Int).toNat).map fun i : Nat => PyData.int i := by rw [Int.toNat_natCast]; rfl
  rw [e]
  refine it_range (n := (n : Int)) ?_ (by omega) (by omega) rfl g2
  rw [← hl]
  exact (ev_len rfl g1 (ev_fz hx d1).s_l (by omega)).s_w
end

end Mine
end

section
open PySem PySem.W PyProof.Rows PySem.Calls
namespace Mine
section
variable {prog : Program} {w : World} {base : Heap} {d : Nat} {L : Addr} {env : Env} {P : Params} {names : List Str} {ps : List (Nat × Nat)}

/-- what comes ahead of the turns -/
theorem line_pre (hE : callEnvC (fdP P 145) L 145 = env) (hdd : d + 7 ≤ 500) (G : GoodN names) (hp : ps.length ≤ 36) :
    Ex prog w (hd.heap_39 P) base d env [("names", .fz (.list (names.map PyData.str))), ("pairs", .fz (.list (pairsN ps)))] ((bodyOf (fdP P 145)).take 4) (.next (lineρ names ps (lineTo names.length ps 0))) := by
  have k1 : Storable env "line" := by rw [← hE]; exact .inl rfl
  have k2 : Storable env "waits" := by rw [← hE]; exact .inl rfl
  have k3 : Storable env "k" := by rw [← hE]; exact .inl rfl
  have k4 : Storable env "gone" := by rw [← hE]; exact .inr ⟨rfl, _, rfl⟩
  have g1 : env.kindOf "len" = some .globalImplicit := by rw [← hE]; rfl
  have g2 : env.kindOf "range" = some .globalImplicit := by rw [← hE]; rfl
  have g3 : env.kindOf "_netrclex" = some .globalImplicit := by rw [← hE]; rfl
  have hi : interactive env = false := by rw [← hE]; rfl
  have h6 := G.len
  have hln : (names.map PyData.str).length = names.length := List.length_map ..
  have hlr : ∀ m : Nat, (natsD (List.range m)).length = m := fun m => by unfold natsD; rw [List.length_map, List.length_range]
  refine ex_cons (ex_lex (x := "line") k1 g3 (by omega)) ?_
  refine ex_cons (ex_comp_own (x := "waits") (ds := intsD (waits0 names.length ps)) k2 ?_ (intsD_flat _) (by rw [← hE]; rfl)) ?_
  · rw [waits0_data]
    refine cu_each (fz := false) (it_rangeLen rfl hln h6 g1 g2) (scopeOk rfl rfl (by rw [← hE]; rfl)) (fun dd => [("k", dd)]) _ (fun C dd _ => asg_name (cEnv_storable (scopeOk rfl rfl (by rw [← hE]; rfl)) (.inr rfl)).1) (fun dd _ x hx => by rw [List.mem_singleton.mp hx]; exact .inr rfl)
      (fun C dd hd' => ?_) (by rw [hlr]; omega)
    obtain ⟨k, hk, rfl⟩ := List.mem_map.mp hd'
    have e1 : (pairsN ps).filter (fun p => PyData.eqv (at1 p) (natD k)) = ((pairsN ps).filter fun p => PyData.eqv (at1 p) (natD k)).map fun d => d := (List.map_id' _).symm
    refine ev_len rfl rfl ?_ (Nat.le_trans (List.length_filter_le _ _) (by unfold pairsN; rw [List.length_map]; omega))
    rw [e1]
    refine Ev.n_l (CompU.ev (cu_one (fz := false) (it_S (ev_fz rfl)) (scopeOk rfl rfl (by rw [← hE]; rfl)) (fun d => [("pair", d)]) _ _ (fun C d _ => asg_name (.inl rfl)) (fun d _ x hx => by rw [List.mem_singleton.mp hx]; exact .inl rfl)
      (fun C d hd2 => ?_) (fun C d _ _ => ev_fz rfl) (by unfold pairsN; rw [List.length_map]; omega)))
    obtain ⟨p, hp, rfl⟩ := List.mem_map.mp hd2
    exact tsts_one (tst_cmp (ev_tupitem (ds := [.int p.1, .int p.2]) (x := .int p.2) (k := 1) (ev_fz rfl) ev_int.s_w (by decide) (by decide) rfl).s_w (ev_fz rfl).s_w (cmp_eq (ok_int _) (ok_int _)) (good_W _))
  have wl : (waits0 names.length ps).length = names.length := by unfold waits0; rw [List.length_map, List.length_range]
  have e0 : lineTo names.length ps 0 = (waits0 names.length ps, push0 (waits0 names.length ps) names.length, []) := rfl
  rw [e0]
  generalize waits0 names.length ps = ws at *
  refine ex_cons (ex_for (ds := natsD (List.range names.length)) (it_rangeLen rfl hln h6 g1 g2) (fun dd => [("k", dd)]) (fun m => [("line", .lex 124 (strsN names (push0 ws m))), ("waits", .own (intsD ws)), ("names", .fz (.list (names.map PyData.str))), ("pairs", .fz (.list (pairsN ps)))])
    (fun dd _ => asg_name k3) (fun dd _ x hx => by rw [List.mem_singleton.mp hx]; exact k3) ?_ fun m dd hdm => ?_) ?_
  · exact sub_cons rfl (sub_cons rfl (sub_cons rfl (sub_cons rfl sub_nil)))
  · obtain ⟨hm, rfl⟩ := nat_at hdm
    have hpl := push0_len ws m
    rw [push0_succ]
    refine ex_cons (ex_if (b := decide (ws.getD m 0 = 0)) (o := .next [("line", .lex 124 (strsN names (push0 ws m ++ (if ws.getD m 0 = 0 then [m] else [])))), ("waits", .own (intsD ws)), ("names", .fz (.list (names.map PyData.str))), ("pairs", .fz (.list (pairsN ps)))]) ?_ (fun hc => ?_) (fun hc => ?_)) ex_nil
    · have e1 : decide (ws.getD m 0 = 0) = PyData.eqv (.int (ws.getD m 0)) (.int 0) := by
        show _ = ((ws.getD m 0 == 0) : Bool)
        rw [Bool.eq_iff_iff]; simp
      rw [e1]
      exact tst_cmp (ev_item (ds := intsD ws) (k := (m : Int)) (ev_own rfl) (ev_fz rfl).s_w (by omega) (by omega) (by rw [Int.toNat_natCast]; exact intsD_get (by omega))).s_w ev_int.s_w (cmp_eq (ok_int _) (ok_int _)) (good_W _)
    · have hc := of_decide_eq_true hc
      rw [if_pos hc, strsN_app]
      exact (ex_cons (ex_push (x := "line") (ds := strsN names (push0 ws m)) rfl (ev_nameAt rfl rfl hm h6) (by rw [strsN_len]; omega) (by omega) hi rfl rfl rfl) ex_nil).weak (sub_cons rfl (sub_cons rfl (sub_cons rfl (sub_cons rfl sub_nil))))
    · have hc := of_decide_eq_false hc
      rw [if_neg hc, List.append_nil]
      exact ex_nil.weak (sub_cons rfl (sub_cons rfl (sub_cons rfl (sub_cons rfl sub_nil))))
  rw [hlr]
  refine (ex_cons (ex_new (x := "gone") (ds := strsN names []) k4 (ev_list evs_nilS (by show 0 ≤ 1000; decide)) (strsN_flat _ _)) ex_nil).weak ?_
  exact sub_cons rfl (sub_cons rfl (sub_cons rfl (sub_cons rfl (sub_cons rfl sub_nil))))
end
end Mine
end

section
open PySem PySem.W PyProof.Rows PySem.Calls
namespace Mine

theorem inn_len {n : Nat} {f : Nat → Nat → Bool} {ps : List (Nat × Nat)} {ws : List Int} {Q gone : List Nat} {g : Nat} (hps : ∀ a k, a < n → k < n → ((a, k) ∈ ps ↔ f a k = true)) (wl : ws.length = n) (hw : ∀ k < n, ws.getD k 0 = (cnt n f gone k : Int)) (hg : g < n) (hn : g ∉ gone) (m : Nat) (hm : m ≤ n) :
    (inn ps g m (ws, Q)).1.length = n ∧ (inn ps g m (ws, Q)).2.length ≤ Q.length + m := by
  obtain ⟨h1, h2, h3⟩ := inn_spec (Q := Q) hps wl hw hg hn m hm
  refine ⟨h1, ?_⟩
  rw [h3, List.length_append]
  exact Nat.add_le_add_left (Nat.le_trans (List.length_filter_le _ _) (by rw [List.length_range]; exact Nat.le_refl _)) _

theorem strs_eq (names : List Str) (i : Nat) (h : i < (names.map PyData.str).length) (h' : i < names.length) : (names.map PyData.str)[i] = PyData.str (names.getD i ⟨#[]⟩) := by
  rw [List.getElem_map, List.getD_eq_getElem?_getD, List.getElem?_eq_getElem h']; rfl
theorem eqv_str (x y : Str) : PyData.eqv (.str x) (.str y) = decide (x = y) := by
  rw [PyData.eqv, Bool.eq_iff_iff]; simp
theorem getD_inj {names : List Str} (hn : names.Nodup) {i j : Nat} (hi : i < names.length) (hj : j < names.length) (e : names.getD i ⟨#[]⟩ = names.getD j ⟨#[]⟩) : i = j := by
  rw [List.getD_eq_getElem?_getD, List.getD_eq_getElem?_getD, List.getElem?_eq_getElem hi, List.getElem?_eq_getElem hj] at e
  have e : names[i] = names[j] := e
  have hn := List.pairwise_iff_getElem.mp hn
  rcases Nat.lt_trichotomy i j with h | h | h
  · exact absurd e (hn i j hi hj h)
  · exact h
  · exact absurd e.symm (hn j i hj hi h)

section
variable {prog : Program} {w : World} {base : Heap} {d : Nat} {L : Addr} {env : Env} {P : Params} {names : List Str} {ps : List (Nat × Nat)} {f : Nat → Nat → Bool}

/-- a turn, the line not being empty -/
theorem line_turn (hE : callEnvC (fdP P 145) L 145 = env) (hdd : d + 7 ≤ 500) (G : GoodN names) (hp : ps.length ≤ 36) (hps : ∀ a k, a < names.length → k < names.length → ((a, k) ∈ ps ↔ f a k = true))
    (hc : ∀ k < names.length, (ps.filter fun p => decide (p.2 = k)).length = cnt names.length f [] k) (t : Nat) (ht : t < goes names.length ps) {ρ : List (Str × Bnd)} (hρ : ∀ x b, (lineρ names ps (lineTo names.length ps t)).lookup x = some b → ρ.lookup x = some b) :
    Ex prog w (hd.heap_39 P) base d env ρ ((forBody (stAt P 145 4)).drop 1) (.next (lineρ names ps (lineTo names.length ps (t + 1)))) := by
  have k3 : Storable env "k" := by rw [← hE]; exact .inl rfl
  have g1 : env.kindOf "len" = some .globalImplicit := by rw [← hE]; rfl
  have g2 : env.kindOf "range" = some .globalImplicit := by rw [← hE]; rfl
  have hi : interactive env = false := by rw [← hE]; rfl
  have h6 := G.len
  have hln : (names.map PyData.str).length = names.length := List.length_map ..
  have hlr : ∀ m : Nat, (natsD (List.range m)).length = m := fun m => by unfold natsD; rw [List.length_map, List.length_range]
  have I := lineTo_inv hps hc t
  have hne := line_on ht
  have hle := line_le (n := names.length) (ps := ps) t
  have hgn := goes_le (n := names.length) (ps := ps)
  have hnext : lineTo names.length ps (t + 1) = lineStep names.length ps (lineTo names.length ps t) := rfl
  rw [hnext]
  refine Ex.pre ?_ hρ
  clear hρ hnext
  generalize lineTo names.length ps t = st at *
  obtain ⟨ws, Q, gone⟩ := st
  dsimp only at hne I hle
  cases Q with
  | nil => exact absurd rfl hne
  | cons g Q =>
  have hgP : g ∈ gone ++ g :: Q := by simp
  have hg := I.lt g hgP
  have hgn' : g ∉ gone := fun m => (List.nodup_append.mp I.nodup).2.2 g m g (.head _) rfl
  have hQl := I.len
  rw [List.length_append, List.length_cons] at hQl
  have hinn := fun m hm => inn_len (Q := Q) hps I.wl I.w hg hgn' m hm
  show Ex _ _ _ _ _ _ (lineρ names ps (ws, g :: Q, gone)) _ (.next (lineρ names ps ((inn ps g names.length (ws, Q)).1, (inn ps g names.length (ws, Q)).2, gone ++ [g])))
  refine ex_cons (ex_gettok (x := "line") (y := "gone") (ds := strsN names Q) (gs := strsN names gone) (dd := .str (names.getD g ⟨#[]⟩)) rfl rfl (by decide) (by rw [strsN_len]; omega) (by rw [List.length_cons, strsN_len]; omega) (by omega) hi rfl rfl rfl rfl) ?_
  have e0 : strsN names gone ++ [PyData.str (names.getD g ⟨#[]⟩)] = strsN names (gone ++ [g]) := by rw [strsN_app]; rfl
  rw [e0]
  have hlast : (strsN names (gone ++ [g]))[(strsN names (gone ++ [g])).length - 1]? = some (.str (names.getD g ⟨#[]⟩)) := by
    rw [strsN_len, List.length_append, List.length_singleton, Nat.add_sub_cancel, strsN_app, List.getElem?_append_right (by rw [strsN_len]; exact Nat.le_refl _), strsN_len, Nat.sub_self]; rfl
  have hgl : (strsN names (gone ++ [g])).length ≤ 1000000 := by rw [strsN_len, List.length_append, List.length_singleton]; omega
  refine (ex_cons (ex_for (ds := natsD (List.range names.length)) (it_rangeLen rfl hln h6 g1 g2) (fun dd => [("k", dd)]) (fun m => innρ names ps (gone ++ [g]) (inn ps g m (ws, Q)))
    (fun dd _ => asg_name k3) (fun dd _ x hx => by rw [List.mem_singleton.mp hx]; exact k3) ?_ fun m dd hdm => ?_) ex_nil).weak ?_
  · exact sub_cons rfl (sub_cons rfl (sub_cons rfl (sub_cons rfl (sub_cons rfl sub_nil))))
  · obtain ⟨hm, rfl⟩ := nat_at hdm
    obtain ⟨r1, r2⟩ := hinn m (by omega)
    have hs : inn ps g (m + 1) (ws, Q) = if (g, m) ∈ ps then ((inn ps g m (ws, Q)).1.set m ((inn ps g m (ws, Q)).1.getD m 0 - 1), if (inn ps g m (ws, Q)).1.getD m 0 - 1 = 0 then (inn ps g m (ws, Q)).2 ++ [m] else (inn ps g m (ws, Q)).2) else inn ps g m (ws, Q) := rfl
    rw [hs]
    generalize inn ps g m (ws, Q) = r at *
    obtain ⟨us, R⟩ := r
    dsimp only at r1 r2 hs ⊢
    refine ex_cons (ex_if (b := decide ((g, m) ∈ ps)) (o := .next (innρ names ps (gone ++ [g]) (if (g, m) ∈ ps then (us.set m (us.getD m 0 - 1), if us.getD m 0 - 1 = 0 then R ++ [m] else R) else (us, R)))) ?_ (fun hc => ?_) (fun hc => ?_)) ex_nil
    · rw [← any_pair]
      refine tst_cmp (Ev.s_w (ev_tuple (ds := [.int (g : Int), natD m]) (evs_cons (ev_index (ds := names.map PyData.str) (dx := .str (names.getD g ⟨#[]⟩)) (j := g) (ev_fz rfl).s_l (ev_last (ev_own rfl) (ev_neg ev_int.s_w).s_w hlast hgl).s_w (G.oks.more (by decide)) (ok_str (G.ok _ (getD_mem hg))) (by rw [hln]; exact hg) (by rw [hln]; omega) ?_ (fun j hj1 hj2 => ?_) rfl) (evs_cons (ev_fz rfl) evs_nilS)) (by show 2 ≤ 1000; decide))) (ev_fz rfl).s_w (cmp_in (x := pairN (g, m)) ((ok_pair _).more (by decide)) ((ok_pairs ps).more (by decide))) (good_W _)
      · rw [strs_eq _ _ _ hg, eqv_str]; exact decide_eq_true rfl
      · rw [strs_eq _ _ _ (by omega), eqv_str]
        exact decide_eq_false fun e => by have := getD_inj G.nodup (by omega) hg e; omega
    · have hc := of_decide_eq_true hc
      rw [if_pos hc]
      refine ex_cons (ex_aug (x := "waits") (ds := intsD us) (k := (m : Int)) (a := us.getD m 0) (b := 1) (c := us.getD m 0 - 1) rfl (ev_fz rfl).s_w (by omega) (by omega) (by rw [Int.toNat_natCast]; exact intsD_get (by omega)) ev_int.s_w (fun A s E Q t u q => PySem.AutoIntOps.isub_0 q)) ?_
      have e1 : (intsD us).set (m : Int).toNat (.int (us.getD m 0 - 1)) = intsD (us.set m (us.getD m 0 - 1)) := by
        unfold intsD; rw [Int.toNat_natCast, List.map_set]
      rw [e1]
      have hul : (us.set m (us.getD m 0 - 1)).length = names.length := by rw [List.length_set]; exact r1
      have hget : (us.set m (us.getD m 0 - 1)).getD m 0 = us.getD m 0 - 1 := by rw [getD_set (by omega), if_pos rfl]
      generalize us.getD m 0 - 1 = c at *
      refine ex_cons (ex_if (b := decide (c = 0)) (o := .next (innρ names ps (gone ++ [g]) (us.set m c, if c = 0 then R ++ [m] else R))) ?_ (fun hc2 => ?_) (fun hc2 => ?_)) ex_nil
      · have e2 : decide (c = 0) = PyData.eqv (.int c) (.int 0) := by
          show _ = ((c == 0) : Bool)
          rw [Bool.eq_iff_iff]; simp
        rw [e2]
        refine tst_cmp (ev_item (ds := intsD (us.set m c)) (k := (m : Int)) (x := .int c) (ev_own rfl) (ev_fz rfl).s_w (by omega) (by omega) ?_).s_w ev_int.s_w (cmp_eq (ok_int _) (ok_int _)) (good_W _)
        rw [Int.toNat_natCast, intsD_get (by omega), hget]
      · have hc2 := of_decide_eq_true hc2
        rw [if_pos hc2]
        refine (ex_cons (ex_push (x := "line") (ds := strsN names R) (dd := .str (names.getD m ⟨#[]⟩)) rfl (ev_nameAt rfl rfl hm h6) (by rw [strsN_len]; omega) (by omega) hi rfl rfl rfl) ex_nil).weak (sub_cons ?_ (sub_cons rfl (sub_cons rfl (sub_cons rfl (sub_cons rfl sub_nil)))))
        rw [strsN_app]; rfl
      · have hc2 := of_decide_eq_false hc2
        rw [if_neg hc2]
        exact ex_nil.weak (sub_cons rfl (sub_cons rfl (sub_cons rfl (sub_cons rfl (sub_cons rfl sub_nil)))))
    · have hc := of_decide_eq_false hc
      rw [if_neg hc]
      exact ex_nil.weak (sub_cons rfl (sub_cons rfl (sub_cons rfl (sub_cons rfl (sub_cons rfl sub_nil)))))
  · rw [hlr]
    exact sub_cons rfl (sub_cons rfl (sub_cons rfl (sub_cons rfl (sub_cons rfl sub_nil))))
end
end Mine
end

section
open PySem PySem.W PyProof.Rows PySem.Calls
namespace Mine

theorem any_strs {names : List Str} (hn : names.Nodup) {gone : List Nat} (hg : ∀ j ∈ gone, j < names.length) {k : Nat} (hk : k < names.length) : ((strsN names gone).any fun y => PyData.eqv y (.str (names.getD k ⟨#[]⟩))) = decide (k ∈ gone) := by
  rw [Bool.eq_iff_iff, List.any_eq_true, decide_eq_true_iff]
  unfold strsN
  constructor
  · rintro ⟨y, hy, e⟩
    obtain ⟨x, hx, rfl⟩ := List.mem_map.mp hy
    obtain ⟨j, hj, rfl⟩ := List.mem_map.mp hx
    rw [eqv_str, decide_eq_true_iff] at e
    rw [← getD_inj hn (hg j hj) hk e]; exact hj
  · intro h
    exact ⟨_, List.mem_map.mpr ⟨_, List.mem_map.mpr ⟨k, h, rfl⟩, rfl⟩, by rw [eqv_str]; exact decide_eq_true rfl⟩
theorem left_data {names : List Str} (hn : names.Nodup) {gone : List Nat} (hg : ∀ j ∈ gone, j < names.length) :
    strsN names (leftOf names.length gone) = ((names.map PyData.str).filter fun d => !((strsN names gone).any fun y => PyData.eqv y d)).map fun d => d := by
  have e : ∀ l : List Nat, strsN names l = l.map (fun k => PyData.str (names.getD k ⟨#[]⟩)) := fun l => by unfold strsN; rw [List.map_map]; rfl
  rw [List.map_id', ← strsN_range, e (List.range names.length), List.filter_map, e (leftOf names.length gone)]
  unfold leftOf
  refine congrArg (List.map _) (List.filter_congr fun k hk => ?_)
  have hk' := List.mem_range.mp hk
  have := any_strs hn hg hk'
  show _ = !(List.any _ fun y => PyData.eqv y (.str (names.getD k ⟨#[]⟩)))
  rw [this]
  simp

section
variable {prog : Program} {w : World} {base : Heap} {P : Params} {names : List Str} {ps : List (Nat × Nat)} {f : Nat → Nat → Bool}

theorem tst_push {d : Nat} {env : Env} {ρ : List (Str × Bnd)} {Q : List Nat} {p1 p2 p3 p4 : Pos} {b : Bool} (G : GoodN names) (hQ : ∀ k ∈ Q, k < names.length) (hx : ρ.lookup ("line" : Str) = some (.lex 124 (strsN names Q))) (e : Q.isEmpty = b) :
    Tst prog w (hd.heap_39 P) base d env ρ (.Compare (.Attribute (.Name "line" p1) "pushback" p2) [.Eq] [.List [] p3] p4) b := by
  rw [← e, ← strsN_empty names, ← eqv_nil]
  exact tst_cmp (ev_pushback hx).l_w (ev_list evs_nilS (by decide)).n_w (cmp_eq ((G.okn hQ).more (by decide)) ((ok_nats []).more (by decide))) (good_W _)

theorem fn_line_ok (G : GoodN names) (hp : ps.length ≤ 36) (hps : ∀ a k, a < names.length → k < names.length → ((a, k) ∈ ps ↔ f a k = true))
    (hc : ∀ k < names.length, (ps.filter fun p => decide (p.2 = k)).length = cnt names.length f [] k) (hall : goes names.length ps = names.length) :
    Fn prog w (hd.heap_39 P) base 8 145 [.list (names.map PyData.str), .list (pairsN ps)] (.str (wordsD names (lineTo names.length ps names.length).2.2)) := by
  refine fn_intro (fnAt_line P) rfl (by decide) fun d L hdd => ?_
  generalize hE : callEnvC (fdP P 145) L 145 = env
  have k3 : Storable env "turn" := by rw [← hE]; exact .inl rfl
  have g1 : env.kindOf "len" = some .globalImplicit := by rw [← hE]; rfl
  have g2 : env.kindOf "range" = some .globalImplicit := by rw [← hE]; rfl
  have hln : (names.map PyData.str).length = names.length := List.length_map ..
  have hlr : (natsD (List.range names.length)).length = names.length := by unfold natsD; rw [List.length_map, List.length_range]
  rw [← List.take_append_drop 4 (bodyOf (fdP P 145))]
  refine ex_app (line_pre hE (by omega) G hp) ?_
  refine ex_cons (ex_for (ds := natsD (List.range names.length)) (it_rangeLen rfl hln G.len g1 g2) (fun dd => [("turn", dd)]) (fun t => lineρ names ps (lineTo names.length ps t))
    (fun dd _ => asg_name k3) (fun dd _ x hx => by rw [List.mem_singleton.mp hx]; exact k3) (fun _ _ e => e) fun t dd hdt => ?_) ?_
  · obtain ⟨ht, rfl⟩ := nat_at hdt
    have I := lineTo_inv hps hc t
    have hne := line_on (n := names.length) (ps := ps) (t := t) (by omega)
    refine ex_cons (ex_if (b := false) (tst_push G (Q := (lineTo names.length ps t).2.1) (fun k hk => I.lt k (List.mem_append_right _ hk)) rfl ?_) (fun h => by cases h) (fun _ => ex_nil)) ?_
    · cases q : (lineTo names.length ps t).2.1 with
      | nil => exact absurd q hne
      | cons _ _ => rfl
    · exact line_turn hE (by omega) G hp hps hc t (by omega) (sub_cons rfl (sub_cons rfl (sub_cons rfl (sub_cons rfl (sub_cons rfl sub_nil)))))
  rw [hlr]
  have I := lineTo_inv hps hc names.length
  have hl := I.len
  rw [List.length_append] at hl
  have h6 := G.len
  have hok := words_sum (names := names) (L := (lineTo names.length ps names.length).2.2) (fun k hk => I.lt k (List.mem_append_left _ hk)) (by omega) G.le
  exact ex_stop (ex_return (ev_join (ys := (lineTo names.length ps names.length).2.2.map fun b => names.getD b ⟨#[]⟩) (ev_own rfl) (Nat.le_trans hok (by decide)) rfl))

theorem fn_line_raise (G : GoodN names) (hp : ps.length ≤ 36) (hps : ∀ a k, a < names.length → k < names.length → ((a, k) ∈ ps ↔ f a k = true))
    (hc : ∀ k < names.length, (ps.filter fun p => decide (p.2 = k)).length = cnt names.length f [] k) (hall : goes names.length ps < names.length) :
    FnR prog w (hd.heap_39 P) base 8 145 [.list (names.map PyData.str), .list (pairsN ps)] (wordsD names (leftOf names.length (lineTo names.length ps names.length).2.2)) (wordsD names (lineTo names.length ps names.length).2.2) (goes names.length ps : Int) := by
  refine fnr_intro (fnAt_line P) rfl (by decide) fun d L hdd => ?_
  generalize hE : callEnvC (fdP P 145) L 145 = env
  have k3 : Storable env "turn" := by rw [← hE]; exact .inl rfl
  have k4 : Storable env "left" := by rw [← hE]; exact .inl rfl
  have g1 : env.kindOf "len" = some .globalImplicit := by rw [← hE]; rfl
  have g2 : env.kindOf "range" = some .globalImplicit := by rw [← hE]; rfl
  have g3 : env.kindOf "NetrcParseError" = some .globalImplicit := by rw [← hE]; rfl
  have hln : (names.map PyData.str).length = names.length := List.length_map ..
  have hlr : (natsD (List.range names.length)).length = names.length := by unfold natsD; rw [List.length_map, List.length_range]
  rw [← List.take_append_drop 4 (bodyOf (fdP P 145))]
  refine exr_app (line_pre hE (by omega) G hp) ?_
  refine exr_here (ex1r_for (ds := natsD (List.range names.length)) (it_rangeLen rfl hln G.len g1 g2) (fun dd => [("turn", dd)]) (fun t => lineρ names ps (lineTo names.length ps t)) (goes names.length ps) (by rw [hlr]; exact hall)
    (fun dd _ => asg_name k3) (fun dd _ x hx => by rw [List.mem_singleton.mp hx]; exact k3) (fun _ _ e => e) (fun t dd htj hdt => ?_) fun dd hdt => ?_)
  · obtain ⟨ht, rfl⟩ := nat_at hdt
    have I := lineTo_inv hps hc t
    have hne := line_on (n := names.length) (ps := ps) (t := t) htj
    refine ex_cons (ex_if (b := false) (tst_push G (Q := (lineTo names.length ps t).2.1) (fun k hk => I.lt k (List.mem_append_right _ hk)) rfl ?_) (fun h => by cases h) (fun _ => ex_nil)) ?_
    · cases q : (lineTo names.length ps t).2.1 with
      | nil => exact absurd q hne
      | cons _ _ => rfl
    · exact line_turn hE (by omega) G hp hps hc t htj (sub_cons rfl (sub_cons rfl (sub_cons rfl (sub_cons rfl (sub_cons rfl sub_nil)))))
  · obtain ⟨ht, rfl⟩ := nat_at hdt
    have hQ := line_end hall
    have I := lineTo_inv hps hc (goes names.length ps)
    rw [line_last] at hQ I ⊢
    have hl := I.len
    rw [List.length_append] at hl
    have h6 := G.len
    have hgl : ∀ j ∈ (lineTo names.length ps names.length).2.2, j < names.length := fun k hk => I.lt k (List.mem_append_left _ hk)
    have hgl36 : (lineTo names.length ps names.length).2.2.length ≤ 36 := by omega
    generalize lineTo names.length ps names.length = st at *
    obtain ⟨ws, Q, gone⟩ := st
    dsimp only at hQ hgl hgl36 I ⊢
    refine exr_here (ex1r_if (tst_push G (Q := Q) (fun k hk => I.lt k (List.mem_append_right _ hk)) rfl (by rw [hQ]; rfl)) ?_)
    have hll : ∀ k ∈ leftOf names.length gone, k < names.length := fun k hk => List.mem_range.mp (List.mem_filter.mp hk).1
    have hll36 : (leftOf names.length gone).length ≤ 36 := Nat.le_trans (List.length_filter_le _ _) (by rw [List.length_range]; omega)
    refine exr_freeze (x := "gone") (ds := strsN names gone) rfl ?_
    refine exr_cons (ex_comp (x := "left") (ds := strsN names (leftOf names.length gone)) k4 ?_ (by rw [← hE]; rfl)) ?_
    · rw [left_data G.nodup hgl]
      refine cu_one (fz := false) (it_S (ev_fz rfl)) (scopeOk rfl rfl (by rw [← hE]; rfl)) (fun d => [("name", d)]) _ _ (fun C d _ => asg_name (.inl rfl)) (fun d _ x hx => by rw [List.mem_singleton.mp hx]; exact .inl rfl)
        (fun C d hd' => ?_) (fun C d _ _ => ev_fz rfl) (by rw [hln]; omega)
      obtain ⟨nm, hnm, rfl⟩ := List.mem_map.mp hd'
      exact tsts_one (tst_cmp (ev_fz rfl).s_w (ev_fz rfl).s_w (cmp_notin (ok_str (G.ok nm hnm)) ((G.okn hgl).more (by decide))) (good_W _))
    · refine exr_here (ex1r_raise g3 (by omega) ?_ ?_ (ev_fz rfl) rfl)
      · exact ev_join (ys := (leftOf names.length gone).map fun b => names.getD b ⟨#[]⟩) (ev_fz rfl).s_l (Nat.le_trans (words_sum hll hll36 G.le) (by decide)) rfl
      · exact ev_join (ys := gone.map fun b => names.getD b ⟨#[]⟩) (ev_fz rfl).s_l (Nat.le_trans (words_sum hgl hgl36 G.le) (by decide)) rfl
end
end Mine
end

section
open PySem PySem.W PyProof.Rows PySem.Calls
namespace Mine

section
variable {prog : Program} {w : World} {A : Around} {E : Value → Shared → Prop} {s : Shared} {P : Params}
theorem pe_ga : findIn (hd.heap_39 P) (.ref 83) "__getattribute__" = some (some (.builtin "BaseException.__getattribute__")) := by kernel_rfl
theorem pe_gat : findIn (hd.heap_39 P) (.ref 83) "__getattr__" = some none := by kernel_rfl
theorem pe_mroB : mroIn (hd.heap_39 P) 83 (.type "BaseException") = some true := by kernel_rfl
theorem pe_strF : findIn (hd.heap_39 P) (.ref 83) "__str__" = some (some (.ref 80)) := by kernel_rfl
theorem pe_strT : typeIn (hd.heap_39 P) (.ref 80) = some (.type "function") := by kernel_rfl
theorem pe_hasd : hasDictIn (hd.heap_39 P) 83 = true := by kernel_rfl
theorem ga_kind : builtinKind "BaseException.__getattribute__" = some .slot := by decide +kernel
theorem ga_split : splitId "BaseException.__getattribute__" = some ("BaseException", "__getattribute__") := by decide +kernel

/-- an attribute of a NetrcParseError -/
theorem pe_attr {x : Addr} {ox od : Obj} {name : Str} {v : Value} {b : Bool} {Q : Value → Shared → Prop} (X : (hd.heap_39 P).In s.heap) (I : InstAt s.heap x ox 83 (some od)) (hf : findObj (hd.heap_39 P) 83 (some od) name = some (.value v)) (hh : handedIn v = true)
    (h : ∀ tk, Q v { s with toks := tk }) : wpAny (model prog w) A (getAttr (.ref x) name b) Q E s := by
  obtain ⟨hp, g, d, tk, os⟩ := s
  have L0 := I.type (M := model prog w)
  have L1 := looks_findIn (M := model prog w) X pe_ga
  have L2 := looks_findIn (M := model prog w) X pe_gat
  have L3 := looks_find (M := model prog w) X I hf
  have L4 : Looks (model prog w) hp (isInstance (.ref x) (.type "BaseException")) true := I.type.andThen (looks_mroIn X pe_mroB)
  have f5 := PySem.F.attrBase_Exception.ga.bind (.ref x)
  unfold getAttr getAttrBy
  refine wpAny_bind (wpAny_mkText (wpAny_holding (wpAny_bind (L0.at (wpAny_bind (L1.at ?_))))))
  have c0 : ¬ (onTheHeap (Value.ref 83) && Value.builtin "BaseException.__getattribute__" == Value.builtin "object.__getattribute__") = true := by decide +kernel
  dsimp only
  rw [if_neg c0]
  unfold getAttrByItsOwn
  have c1 : hookBefore (.ref 83) = typeLookup (.ref 83) "__getattr__" := rfl
  rw [c1]
  refine wpAny_bind (L2.at ?_)
  have c2 : callGetattribute (.ref x) (.str name tk) (.builtin "BaseException.__getattribute__") b = boundAndCalled (.builtin "BaseException.__getattribute__") (.ref x) (.str name tk) := by cases b <;> rfl
  rw [c2]
  have sz : ∀ tk', wpAny (model prog w) A.in1 (Builtin.«object.__getattribute__» ⟨[.ref x, .str name tk], []⟩) (fun f s' => f = .done (.ret v) ∧ s' = ⟨hp, g, d, tk', os⟩) (fun _ _ => False) ⟨hp, g, d, tk', os⟩ := fun tk' => by
    unfold Builtin.«object.__getattribute__»
    refine wpAny_bind (wpAny_pure ?_)
    dsimp only
    refine wpAny_bind (wpAny_pure (wpAny_bind (L0.at (wpAny_bind (L3.at ?_)))))
    exact wpAny_pure ⟨rfl, rfl⟩
  refine wpAny_bind (wpAny_attempt (wpAny_holding ?_))
  unfold boundAndCalled
  refine wpAny_bind (wpAny_of_eq f5 ?_)
  dsimp only
  refine wpAny_call (codeAny_call_builtin PySem.F.attrBase_Exception.ga.plain PySem.F.entry_bexc_ga (@check_slot (model prog w) _ _ ⟨hp, g, d, tk + 1, os⟩ "BaseException.__getattribute__" "BaseException" "__getattribute__" (.ref x) [.str name tk] [] _ ga_kind ga_split L4 (PySem.F.args_bexc_ga _ _) ?_))
  refine wpAny_mono (sz _) (fun f s' q => ?_) fun _ _ q => q.elim
  obtain ⟨rfl, rfl⟩ := q
  exact wpAny_of_eq (handedOut_of hh) (h _)

noncomputable abbrev peText (m f : Str) (l : Int) : Str := m ++ " (" ++ f ++ ", line " ++ (toString l : Str) ++ ")"
theorem pe_own {es : List DictEntry} {n : Nat} {name : Str} {v : Value} (ha : findIn (hd.heap_39 P) (.ref 83) name = some none) (g : getL name es = some (some v)) : findObj (hd.heap_39 P) 83 (some (dictOf es n)) name = some (.value v) :=
  findObj_own pe_hasd ha rfl (by rw [lookIn_dict]; exact g)

/-- its __str__ -/
theorem pe_str_call {x : Addr} {ox : Obj} {es : List DictEntry} {n : Nat} {m f : Str} {l : Int} {t1 t2 t3 : Tok} {Q : Value → Shared → Prop} (hroom : A.depth < recursionLimit) (X : (hd.heap_39 P).In s.heap) (nl : s.heap.NoLimit)
    (I : InstAt s.heap x ox 83 (some (dictOf es n))) (g1 : getL "msg" es = some (some (.str m t1))) (g2 : getL "filename" es = some (some (.str f t2))) (g3 : getL "lineno" es = some (some (.int l t3)))
    (hm : m.length ≤ 10000) (hf : f.length ≤ 10000) (hl : l.natAbs.log2 < 1920) (hlz : (toString l : Str).length ≤ 100)
    (h : ∀ h' tk t, (∀ b o, s.heap.get? b = some o → h'.get? b = some o) → Q (.str (peText m f l) t) { s with heap := h', toks := tk }) : wpAny (model prog w) A (call (.ref 80) [.ref x]) Q E s := by
  obtain ⟨oc, od, osl, hK⟩ : ∃ oc od osl, (hd.heap_39 P).lookup 80 = some ⟨oc, od, .func (fdP P 80), osl⟩ := ⟨_, _, _, rfl⟩
  refine wpAny_call (call_cells_c (fd := fdP P 80) (body := bodyOf (fdP P 80)) (binds := [("self", .ref x)]) hroom (X _ _ hK) rfl nl (codeRec_of X (by kernel_rfl)) rfl (binds_self _ ⟨rfl, rfl, rfl, rfl, rfl⟩ rfl) rfl (fun y hy => .inl (by
    rw [List.mem_singleton.mp hy]; rfl)) (fun s₁ Z c => ?_) rfl rfl rfl)
  obtain ⟨h₁, t₁, rfl⟩ := Z.toInCall.same
  have ns := Z.toInCall.ns
  have kk : ∀ b o, s.heap.get? b = some o → h₁.get? b = some o := Z.toInCall.keep
  have X1 := X.keeps kk
  have I1 : InstAt h₁ x ox 83 (some (dictOf es n)) := by
    obtain ⟨i1, i2, i3, i4⟩ := I
    refine ⟨kk _ _ i1, i2, i3, ?_⟩
    revert i4
    cases ox.dict with
    | none => exact id
    | some dx => exact fun e => kk _ _ e
  have z1 : (" (" : Str).length = 2 := by decide
  have z2 : (", line " : Str).length = 7 := by decide
  have z3 : (")" : Str).length = 1 := by decide
  have z0 : (Str.empty : Str).length = 0 := by decide
  have zl : 30000 ≤ sizeLine := by decide
  have e0 : Str.empty ++ m = m := Str.append_left_empty (by decide)
  refine wpAny_execs_cons (wpAny_Return_some (JoinedStr_many ?_))
  refine joinParts_cons (wpAny_FormattedValue_s (Attribute_Name_ (wpAny_Name (wpAny_loadName_local rfl rfl ns (v := .ref x) rfl (pe_attr X1 I1 (pe_own pe_f3 g1) rfl fun tk1 => SB.convS_str (fun t' k' => SB.field_str (fun t'' k'' => ⟨?_, ?_⟩) (by omega)) (by omega))))))
  · simp only [PySem.Str.length_append]; omega
  rw [e0]
  refine joinParts_cons (Constant_str ⟨by simp only [PySem.Str.length_append]; omega, ?_⟩)
  refine joinParts_cons (wpAny_FormattedValue_s (Attribute_Name_ (wpAny_Name (wpAny_loadName_local rfl rfl ns (v := .ref x) rfl (pe_attr X1 I1 (pe_own pe_f1 g2) rfl fun tk1 => SB.convS_str (fun t' k' => SB.field_str (fun t'' k'' => ⟨?_, ?_⟩) (by omega)) (by omega))))))
  · simp only [PySem.Str.length_append]; omega
  refine joinParts_cons (Constant_str ⟨by simp only [PySem.Str.length_append]; omega, ?_⟩)
  refine joinParts_cons (wpAny_FormattedValue_s (Attribute_Name_ (wpAny_Name (wpAny_loadName_local rfl rfl ns (v := .ref x) rfl (pe_attr X1 I1 (pe_own pe_f2 g3) rfl fun tk1 => SB.convS_int hl (SB.field_str (fun t'' k'' => ⟨?_, ?_⟩) (by omega)))))))
  · simp only [PySem.Str.length_append]; omega
  refine joinParts_cons (Constant_str ⟨by simp only [PySem.Str.length_append]; omega, ?_⟩)
  exact joinParts_nil (h _ _ _ kk) (by simp only [PySem.Str.length_append]; omega)
end
end Mine
end

section
open PySem PySem.W PyProof.Rows PySem.Calls
namespace Mine

section
variable {prog : Program} {w : World} {A : Around} {E : Value → Shared → Prop} {s : Shared} {P : Params}
theorem special_fn {M : Model} {K : Frag} {x C f : Addr} {ox : Obj} {od : Option Obj} {name : Str} {args : List Value} {Q : Option Value → Shared → Prop} (X : K.In s.heap) (I : InstAt s.heap x ox C od) (hs : findIn K (.ref C) name = some (some (.ref f))) (hf : typeIn K (.ref f) = some (.type "function"))
    (h : wpAny M A (call (.ref f) (.ref x :: args)) (fun v => Q (some v)) E s) : wpAny M A (callSpecial? (.ref x) name args) Q E s := by
  obtain ⟨hh, g, d, t, os⟩ := s
  have L0 := I.type (M := M)
  have L1 := looks_findIn (M := M) X hs
  have L2 := bind_fn (M := M) X (.ref x) hf
  unfold callSpecial?
  refine wpAny_bind (wpAny_bind (L0.at (L1.at ?_)))
  refine wpAny_holding (wpAny_bind (L2.at ?_))
  exact wpAny_bind (wpAny_mono h (fun v s' h' => wpAny_pure h') fun _ _ h' => h')

/-- str(e) -/
theorem str_pe {x : Addr} {ox : Obj} {es : List DictEntry} {n : Nat} {m f : Str} {l : Int} {t1 t2 t3 : Tok} {Q : Value → Shared → Prop} (hroom : A.depth < recursionLimit) (hu : A.units + 10 < cLine) (X : (hd.heap_39 P).In s.heap) (nl : s.heap.NoLimit)
    (I : InstAt s.heap x ox 83 (some (dictOf es n))) (g1 : getL "msg" es = some (some (.str m t1))) (g2 : getL "filename" es = some (some (.str f t2))) (g3 : getL "lineno" es = some (some (.int l t3)))
    (hm : m.length ≤ 10000) (hf : f.length ≤ 10000) (hl : l.natAbs.log2 < 1920) (hlz : (toString l : Str).length ≤ 100)
    (h : ∀ h' tk t, (∀ b o, s.heap.get? b = some o → h'.get? b = some o) → Q (.str (peText m f l) t) { s with heap := h', toks := tk }) : wpAny (model prog w) A (call (.type "str") [.ref x]) Q E s := by
  refine callType_new PySem.F.called_str (by decide) (PySem.F.typeCall_str_1 _) (PySem.F.newCall_str_1 _) (fun obj => PySem.F.args_object_init_2 obj _) PySem.F.entry_str_new
    (meets_str_new (S := fun A' R s' => A'.depth < recursionLimit ∧ A'.units + 5 < cLine ∧ (hd.heap_39 P).In s'.heap ∧ s'.heap.NoLimit ∧ InstAt s'.heap x ox 83 (some (dictOf es n)) ∧
      ∀ h' tk t, (∀ b o, s'.heap.get? b = some o → h'.get? b = some o) → R (.ok (.ret (.str (peText m f l) t))) { s' with heap := h', toks := tk }) (fun prog w A' R s' hq => ?_)) ⟨hroom, ?_, X, nl, I, fun h' tk t k => ⟨typeIs_str _ _ _, h h' tk t k⟩⟩
  · obtain ⟨q1, q2, q3, q4, q5, q6⟩ := hq
    have hu' : A'.in1.units < cLine := by show A'.units + 1 < cLine; omega
    unfold Builtin.Str.strOf
    rw [show Builtin.Str.isExactStr (.ref x) = false from rfl, if_neg (by decide)]
    refine wpAny_bind (wpAny_cRoomFor hu' ?_)
    refine wpAny_bind (special_fn q3 q5 pe_strF pe_strT (pe_str_call q1 q3 q4 q5 g1 g2 g3 hm hf hl hlz fun h' tk t k => ?_))
    dsimp only
    refine wpAny_bind (wpAny_pure (a := some (peText m f l)) ?_)
    rw [if_neg (by simp)]
    exact wpAny_pure (q6 h' tk t k)
  · show A.units + 1 + 5 < cLine
    omega

theorem safe_binds2 (P : Params) (s : Shared) (X : (hd.heap_39 P).In s.heap) (a b : Value) : Binds s (fdP P 39) [a, b] [("value", a), ("what", b), ("func", .type "str")] :=
  binds_w2 (T := 32) a b ⟨rfl, rfl, rfl, rfl, rfl⟩ rfl (X 32 _ rfl) rfl
end
end Mine
end

section
open PySem PySem.W PyProof.Rows PySem.Calls
namespace Mine

section
variable {prog : Program} {w : World} {A : Around} {E : Value → Shared → Prop} {s : Shared} {P : Params}
/-- _safe_string(e, 'exception') -/
theorem safe_pe {x : Addr} {t : Tok} {ox : Obj} {es : List DictEntry} {n : Nat} {m f : Str} {l : Int} {t1 t2 t3 : Tok} {Q : Value → Shared → Prop} (hroom : A.depth + 2 < recursionLimit) (hu : A.units + 20 < cLine) (X : (hd.heap_39 P).In s.heap) (nl : s.heap.NoLimit)
    (I : InstAt s.heap x ox 83 (some (dictOf es n))) (g1 : getL "msg" es = some (some (.str m t1))) (g2 : getL "filename" es = some (some (.str f t2))) (g3 : getL "lineno" es = some (some (.int l t3)))
    (hm : m.length ≤ 10000) (hf : f.length ≤ 10000) (hl : l.natAbs.log2 < 1920) (hlz : (toString l : Str).length ≤ 100)
    (h : ∀ h' tk t, (∀ b o, s.heap.get? b = some o → h'.get? b = some o) → Q (.str (peText m f l) t) { s with heap := h', toks := tk }) : wpAny (model prog w) A (call (.ref 39) [.ref x, .str "exception" t]) Q E s := by
  obtain ⟨oc, od, osl, hK⟩ : ∃ oc od osl, (hd.heap_39 P).lookup 39 = some ⟨oc, od, .func (fdP P 39), osl⟩ := ⟨_, _, _, rfl⟩
  refine wpAny_call (call_cells_c (fd := fdP P 39) (body := bodyOf (fdP P 39)) (binds := [("value", .ref x), ("what", .str "exception" t), ("func", .type "str")]) (by omega) (X _ _ hK) rfl nl (codeRec_of X (by kernel_rfl)) rfl (safe_binds2 P s X _ _) rfl (fun x hx => .inl (by
    rcases List.mem_cons.mp hx with rfl | hx
    · rfl
    · rcases List.mem_cons.mp hx with rfl | hx
      · rfl
      · rw [List.mem_singleton.mp hx]; rfl)) (fun s₁ Z c => ?_) rfl rfl rfl)
  obtain ⟨h₁, t₁, rfl⟩ := Z.toInCall.same
  have ns := Z.toInCall.ns
  have kk : ∀ b o, s.heap.get? b = some o → h₁.get? b = some o := Z.toInCall.keep
  have X1 := X.keeps kk
  have I1 : InstAt h₁ x ox 83 (some (dictOf es n)) := by
    obtain ⟨i1, i2, i3, i4⟩ := I
    refine ⟨kk _ _ i1, i2, i3, ?_⟩
    revert i4
    cases ox.dict with
    | none => exact id
    | some dx => exact fun e => kk _ _ e
  generalize hEnv : callEnvC (fdP P 39) s.heap.objs.size 39 = env at *
  have k1 : env.kindOf "value" = some .local := by rw [← hEnv]; rfl
  have k3 : env.kindOf "func" = some .local := by rw [← hEnv]; rfl
  have ks : env.scope.kind = .function := by rw [← hEnv]; rfl
  have m1 : bindL env.kindOf [("value", .ref x), ("what", .str "exception" t), ("func", .type "str")] (fun _ => none) "value" = some (.ref x) := by rw [← hEnv]; rfl
  have m3 : bindL env.kindOf [("value", .ref x), ("what", .str "exception" t), ("func", .type "str")] (fun _ => none) "func" = some (.type "str") := by rw [← hEnv]; rfl
  refine wpAny_execs_cons (wpAny_Try_except ?_)
  refine wpAny_execs_cons (wpAny_Return_some (Call_Name rfl (wpAny_Name (wpAny_loadName_local ks k3 ns m3 ?_))))
  refine PySem.callWith_type rfl (evalArgs_plain (spliced_cons (wpAny_Name (wpAny_loadName_local ks k1 ns m1 (spliced_nil ?_)))))
  refine str_pe (by show A.depth + 1 < recursionLimit; omega) (by show A.units + 3 + 10 < cLine; omega) X1 (nl.keeps kk) I1 g1 g2 g3 hm hf hl hlz fun h' tk t k => ?_
  exact h h' tk t fun b o q => k b o (kk b o q)
end

/-! a name goes -/
theorem dropName_c (name : Str) (o : Obj) : (Obj.dropName name o).cls = o.cls ∧ (Obj.dropName name o).dict = o.dict := by
  obtain ⟨c, d, dt, sl⟩ := o
  rw [Obj.dropName_eq]
  unfold Obj.dropNameByArray
  cases dt <;> first | exact ⟨rfl, rfl⟩ | skip
  dsimp only
  split <;> exact ⟨rfl, rfl⟩
theorem tame_nsDel (a : Addr) (name : Str) : Tame (nsDel a name) := by
  unfold nsDel
  refine Tame.bind (fun _ => trivial) fun o => Tame.bind ?_ fun b => ?_
  · rw [nsHas_eq]
    unfold nsHasByArray
    split
    · split
      · exact trivial
      · split <;> exact trivial
    · exact trivial
  · cases b
    · exact trivial
    · exact ⟨fun o => dropName_c name o, trivial⟩
section
variable {M : Model} {A : Around} {E : Value → Shared → Prop} {s : Shared}
theorem name_goes_c {env : Env} {n : Str} {pos : Pos} {m : Str → Option Value} {Q : Unit → Shared → Prop} (hl : env.kindOf n = some .local) (hn : s.heap.Ns env.locals m) (hp : (env.scope.kind == .class || (env.scope.kind == .module && env.locals != env.globals)) = false)
    (h : ∀ h' v tk, h'.Ns env.locals (fun x => if x = n then v else m x) → Heap.SameBut env.locals s.heap h' → (∀ o, s.heap.get? env.locals = some o → ∃ o', h'.get? env.locals = some o' ∧ o'.cls = o.cls) → Q () { s with heap := h', toks := tk }) :
    wpAny M A (do bindName env n .none; unbindBehindTheSuite env n pos) Q E s := by
  refine wpAny_bind (wpAny_bindName (storeLocal_c hl hn (fun h₁ hn₁ hs₁ hc₁ => ?_) hp))
  unfold unbindBehindTheSuite
  refine wpAny_onRaise ?_
  unfold unbindName
  refine wpAny_bind (wpAny_point (wpAny_bind ?_))
  unfold deleteName
  simp only [hl, hp]
  rw [if_neg (by decide)]
  refine wpAny_bind (wpAny_mono (wpAny_tame (tame_nsDel _ _) (wpAny_nsDel_keeps (Q := fun b s' => b = true ∧ ∃ h₂ v, s' = { s with heap := h₂, toks := s.toks + 1 } ∧ h₂.Ns env.locals (fun x => if x = n then v else if x = n then some .none else m x) ∧ Heap.SameBut env.locals h₁ h₂) (E := fun _ _ => False) hn₁ fun h₂ v hn₂ hs₂ => ⟨by simp, h₂, v, rfl, hn₂, hs₂⟩)) (fun b s' q => ?_) fun _ _ q => q.1.elim)
  obtain ⟨⟨rfl, h₂, v, rfl, hn₂, hs₂⟩, dk⟩ := q
  simp only [Bool.not_true, Bool.false_eq_true, if_false]
  refine wpAny_pure (wpAny_point (h h₂ v _ ?_ (hs₁.trans hs₂) fun o ho => ?_))
  · obtain ⟨o, es, ep, ho, hd, hk, hm⟩ := hn₂
    exact ⟨o, es, ep, ho, hd, hk, fun x => by rw [hm x]; by_cases hx : x = n <;> simp [hx]⟩
  · obtain ⟨o1, e1, c1⟩ := hc₁ o ho
    obtain ⟨o2, e2, c2, _⟩ := dk _ _ (Heap.get?_some_iff.mp e1).1
    obtain ⟨o3, _, _, e3, _⟩ := hn₂
    have := (Heap.get?_some_iff.mp e3).1
    rw [this] at e2
    cases e2
    exact ⟨_, e3, c2.trans c1⟩
end

section
variable {prog : Program} {w : World} {A : Around} {E : Value → Shared → Prop} {s : Shared} {env : Env} {P : Params}
/-- a clause that catches a NetrcParseError by name; its suite does not raise -/
theorem handle_pe {e : Addr} {t : Expr} {n : Str} {b₀ : Stmt} {suite : List Stmt} {pos : Pos} {rest : List ExceptHandler} {Q : Flow → Shared → Prop}
    (h : wpAny (model prog w) (A.mark (some (.ref e))) (eval t env) (fun c s₁ => c = .ref 83 ∧ (hd.heap_39 P).In s₁.heap ∧ (∃ oe, s₁.heap.get? e = some oe ∧ oe.cls = .ref 83) ∧
      wpAny (model prog w) (A.mark (some (.ref e))) (setFlight (.ref e) none) (fun _ s₂ => wpAny (model prog w) (A.mark (some (.ref e))) (storeName env n (.ref e)) (fun _ s₃ =>
        wpAny (model prog w) (A.mark (some (.ref e))) (execs (b₀ :: suite) env) (fun f s₄ => wpAny (model prog w) A (do bindName env n .none; unbindBehindTheSuite env n pos) (fun _ s₅ => Q f s₅) E s₄) (fun _ _ => False) s₃) (fun _ _ => False) s₂) (fun _ _ => False) s₁) (fun _ _ => False) s) :
    wpAny (model prog w) A (handleBy (.ref e) env (.ExceptHandler (some t) (some n) (b₀ :: suite) pos :: rest)) Q E s := by
  refine wpAny_handleBy_cons (codeAny_handlers_test (wpAny_mono h (fun c s₁ h₁ => ?_) fun _ _ y => y.elim)) (by intro q; cases q)
  obtain ⟨rfl, X, ⟨oe, he, hcls⟩, hk⟩ := h₁
  obtain ⟨bs, sub, k0, k1, k2, k3, k5, hC⟩ := pe_cls X
  obtain ⟨hh, g, d, tk, os⟩ := s₁
  refine wpAny_excMatches_sub_self hC he hcls (by decide) (codeAny_handlers_suite_as (wpAny_mono hk (fun _ s₂ h₂ => wpAny_mono h₂ (fun _ s₃ h₃ => wpAny_mono h₃ (fun f s₄ h₄ => h₄) fun _ _ y => y.elim) fun _ _ y => y.elim) fun _ _ y => y.elim))
end
end Mine
end

section
open PySem PySem.W PyProof.Rows PySem.Calls
namespace Mine

section
variable {prog : Program} {w : World} {base : Heap} {A : Around} {s : Shared} {E : Value → Shared → Prop} {P : Params} {env : Env} {l : List Env} {m f : Str} {ln : Int} {s₀ : Heap} {e : Addr}

/-- it lands in the frame env and is bound -/
theorem land_pe {n : Str} {np pos : Pos} {b₀ : Stmt} {suite : List Stmt} {rest : List ExceptHandler} {L : Addr} {Q : Flow → Shared → Prop} (hK : (hd.heap_39 P).In base) (hfr : A.frames = some (env :: l)) (hf : env.frame = some L) (hk : env.scope.kind = .function) (hgl : env.globals = mainGlobals)
    (hx : env.kindOf "NetrcParseError" = some .globalImplicit) (F : Fallen base (env :: l) m f ln s₀ e s.heap)
    (k : ∀ h', Fallen base (env :: l) m f ln s₀ e h' → wpAny (model prog w) (A.mark (some (.ref e))) (storeName env n (.ref e)) (fun _ s₃ =>
        wpAny (model prog w) (A.mark (some (.ref e))) (execs (b₀ :: suite) env) (fun f s₄ => wpAny (model prog w) A (do bindName env n .none; unbindBehindTheSuite env n pos) (fun _ s₅ => Q f s₅) E s₄) (fun _ _ => False) s₃) (fun _ _ => False) { s with heap := h' }) :
    wpAny (model prog w) A (noteFrame (.ref e) env) (fun _ s₂ => wpAny (model prog w) A (setFlight (.ref e) none) (fun _ s₃ =>
      wpAny (model prog w) A (handleBy (.ref e) env (.ExceptHandler (some (.Name "NetrcParseError" np)) (some n) (b₀ :: suite) pos :: rest)) Q E s₃) E s₂) E s := by
  obtain ⟨G, dx, es, n', t1, t2, t3, kG, ⟨⟨B, a0, b1, b2, fl⟩, up⟩, ne, ndx, ⟨o, q1, q2, q3⟩, hG, g1, g2, g3⟩ := F
  refine wpAny_mono (wpAny_tame (tame_noteFrame _ _) (wpAny_looks_onW (E := fun _ _ => False) (Q := fun _ s' => ∃ h₄, s' = { s with heap := h₄ } ∧ Heap.HeldW B (env :: l) e (.ref 83) a0 L h₄ ∧ s.heap.UpToSlots h₄) hfr hf fl fun h₄ a b => ⟨h₄, rfl, a, b⟩)) (fun _ s₂ q => ?_) fun _ _ q => q.1.elim
  obtain ⟨⟨h₄, rfl, held₄, sm₄⟩, dk₄⟩ := q
  refine wpAny_mono (wpAny_tame (tame_setFlight _ _) (wpAny_landsW (E := fun _ _ => False) (Q := fun _ s' => ∃ h₅, s' = { s with heap := h₅ } ∧ Heap.FlyingW B (env :: l) e (.ref 83) a0 h₅ ∧ h₄.UpToSlots h₅) held₄ fun h₅ a b => ⟨h₅, rfl, a, b⟩)) (fun _ s₂ q => ?_) fun _ _ q => q.1.elim
  obtain ⟨⟨h₅, rfl, fl₅, sm₅⟩, dk₅⟩ := q
  have X5 : (hd.heap_39 P).In h₅ := hK.keeps fun b o q => fl₅.1 b o (b1 b o q)
  refine handle_pe (P := P) (Name_function_global hk hx ?_ (by decide))
  unfold loadGlobal
  rw [hgl]
  refine wpAny_bind (looks_nsIn (M := model prog w) X5 (pe_glob (P := P)) _ _ _ _ (fun _ _ e => e) (wpAny_pure ⟨rfl, X5, ?_, ?_⟩))
  · obtain ⟨oe, vs, r1, r2, _⟩ := fl₅.first
    exact ⟨oe, r1, r2⟩
  · refine wpAny_mono (wpAny_tame (tame_setFlight _ _) (lands_againW (E := fun _ _ => False) (Q := fun _ s' => ∃ h₆, s' = { s with heap := h₆ } ∧ Heap.FlyingW B (env :: l) e (.ref 83) a0 h₆ ∧ h₅.UpToSlots h₆) fl₅ fun h₆ a b => ⟨h₆, rfl, a, b⟩)) (fun _ s₂ q => ?_) fun _ _ q => q.1.elim
    obtain ⟨⟨h₆, rfl, fl₆, sm₆⟩, dk₆⟩ := q
    obtain ⟨o4, p1, p2, p3⟩ := dk₄ e o q1
    obtain ⟨o5, p4, p5, p6⟩ := dk₅ e o4 p1
    obtain ⟨o6, p7, p8, p9⟩ := dk₆ e o5 p4
    exact k h₆ ⟨G, dx, es, n', t1, t2, t3, kG, ⟨⟨B, a0, b1, b2, fl₆⟩, up.trans (sm₄.trans (sm₅.trans sm₆))⟩, ne, ndx, ⟨o6, p7, p8.trans (p5.trans (p2.trans q2)), p9.trans (p6.trans (p3.trans q3))⟩, hG, g1, g2, g3⟩

/-- what is known behind it -/
theorem Fallen.hext {d : Nat} {h : Heap} (F : Fallen base (env :: l) m f ln s₀ e h) (W : Wd (hd.heap_39 P) base d A s₀) (hfr : A.frames = some (env :: l)) : Hext base s₀ h := by
  obtain ⟨G, dx, es, n', t1, t2, t3, kG, fl, _⟩ := F
  obtain ⟨l', e1, e2, e3⟩ := (W.keeps kG).fr
  obtain rfl : env :: l = l' := by rw [hfr] at e1; exact Option.some.inj e1
  exact hext_trans kG (fly_hext fl e2 e3)
end

/-! a frame that is on top -/
noncomputable def ExT (prog : Program) (w : World) (K : Frag) (base : Heap) (d : Nat) (env : Env) (ρ : List (Str × Bnd)) (ss : List Stmt) (o : Out) : Prop :=
  ∀ A Y M h₀ s E l, A.frames = some (env :: l) → Wd K base d A s.heap → base.StaysIn h₀ → St base Y M env ρ h₀ s.heap →
    wpAny (model prog w) A (execs ss env) (fun f s' => ∃ h' tk, s' = { s with heap := h', toks := tk } ∧ Fin base env Y M h₀ s.heap o f h' ∧ Chg base M s.heap h') E s
noncomputable def Ex1T (prog : Program) (w : World) (K : Frag) (base : Heap) (d : Nat) (env : Env) (ρ : List (Str × Bnd)) (ss : Stmt) (o : Out) : Prop :=
  ∀ A Y M h₀ s E l, A.frames = some (env :: l) → Wd K base d A s.heap → base.StaysIn h₀ → St base Y M env ρ h₀ s.heap →
    wpAny (model prog w) A (exec ss env) (fun f s' => ∃ h' tk, s' = { s with heap := h', toks := tk } ∧ Fin base env Y M h₀ s.heap o f h' ∧ Chg base M s.heap h') E s
section
variable {prog : Program} {w : World} {K : Frag} {base : Heap} {d : Nat} {env : Env} {ρ ρ' : List (Str × Bnd)} {o : Out} {s1 s2 : List Stmt} {st : Stmt}
theorem Ex.t (h : Ex prog w K base d env ρ s1 o) : ExT prog w K base d env ρ s1 o := fun A Y M h₀ s E l _ W B S => h A Y M h₀ s E W B S
theorem Ex1.t (h : Ex1 prog w K base d env ρ st o) : Ex1T prog w K base d env ρ st o := fun A Y M h₀ s E l _ W B S => h A Y M h₀ s E W B S
theorem ext_cons (h1 : Ex1T prog w K base d env ρ st (.next ρ')) (h2 : ExT prog w K base d env ρ' s2 o) : ExT prog w K base d env ρ (st :: s2) o := fun A Y M h₀ s E l hfr W B S => by
  refine wpAny_execs_cons (wpAny_mono (h1 A Y M h₀ s E l hfr W B S) (fun f s₁ q => ?_) fun _ _ x => x)
  obtain ⟨h', tk, rfl, ⟨rfl, M', S', hM⟩, C⟩ := q
  refine wpAny_mono (h2 A Y M' h₀ _ E l hfr (W.step (S'.keep.stays (fun _ m => nomatch m) B) C.fr) B S') (fun f s₂ q => ?_) fun _ _ x => x
  obtain ⟨h'', tk', rfl, F, C'⟩ := q
  refine ⟨h'', tk', rfl, ?_, C.trans C' hM⟩
  cases o with
  | next ρ₂ =>
    obtain ⟨rfl, M'', S'', hM'⟩ := F
    exact ⟨rfl, M'', S'', C.back hM hM'⟩
  | ret dd => exact F
theorem ext_app (h1 : Ex prog w K base d env ρ s1 (.next ρ')) (h2 : ExT prog w K base d env ρ' s2 o) : ExT prog w K base d env ρ (s1 ++ s2) o := fun A Y M h₀ s E l hfr W B S => by
  refine wpAny_execs_app (wpAny_mono (h1 A Y M h₀ s E W B S) (fun f s₁ q => ?_) fun _ _ x => x)
  obtain ⟨h', tk, rfl, ⟨rfl, M', S', hM⟩, C⟩ := q
  refine wpAny_mono (h2 A Y M' h₀ _ E l hfr (W.step (S'.keep.stays (fun _ m => nomatch m) B) C.fr) B S') (fun f s₂ q => ?_) fun _ _ x => x
  obtain ⟨h'', tk', rfl, F, C'⟩ := q
  refine ⟨h'', tk', rfl, ?_, C.trans C' hM⟩
  cases o with
  | next ρ₂ =>
    obtain ⟨rfl, M'', S'', hM'⟩ := F
    exact ⟨rfl, M'', S'', C.back hM hM'⟩
  | ret dd => exact F
theorem ext_freeze {x : Str} {ds : List PyData} (hx : ρ.lookup x = some (.own ds)) (h : ExT prog w K base d env ((x, .fz (.list ds)) :: ρ) s1 o) : ExT prog w K base d env ρ s1 o := fun A Y M h₀ s E l hfr W B S => by
  obtain ⟨M', S', hM⟩ := S.freeze hx
  refine wpAny_mono (h A Y M' h₀ s E l hfr W B S') (fun f s₁ q => ?_) fun _ _ x => x
  obtain ⟨h', tk, rfl, F, C⟩ := q
  refine ⟨h', tk, rfl, ?_, ⟨C.out.less hM, C.fr⟩⟩
  cases o with
  | next ρ₂ => obtain ⟨rfl, M'', S'', hM'⟩ := F; exact ⟨rfl, M'', S'', fun a ha => (hM' a ha).imp (hM a) id⟩
  | ret dd => exact F

theorem fnT_intro {n : Nat} {fa : Addr} {fd : FuncData} {body : List Stmt} {ps : List Str} {ds : List PyData} {res : PyData} (F : FnAt K fa fd body ps) (hl : ps.length = ds.length) (hn : 1 ≤ n)
    (hb : ∀ d L, d + n ≤ 500 → ExT prog w K base (d + 1) (callEnvC fd L fa) (fzs (ps.zip ds)) body (.ret res)) : Fn prog w K base n fa ds res := fun d A Y s E vs hdn W hY hr => by
  obtain ⟨oc, od, osl, hK⟩ := F.at_
  have hlen := hr.length
  obtain ⟨l, hfr, _, _⟩ := W.fr
  have hkk : ∀ x ∈ ps.zip vs, fd.scope.names.lookup x.1 = some .local ∨ (fd.scope.names.lookup x.1 = some .cell ∧ ((cellsFrom (s.heap.objs.size + 1) fd.scope.names []).lookup x.1).isSome = true) := fun x hx => by
    have hxp : x.1 ∈ ps := (List.of_mem_zip hx).1
    rcases F.psK x.1 hxp with hk | hk
    · exact .inl hk
    · obtain ⟨c, hc⟩ := cells_some (n := s.heap.objs.size + 1) F.nodup hk
      exact .inr ⟨hk, by rw [hc]; rfl⟩
  refine wpAny_call (call_cells_c (fd := fd) W.room (W.K _ _ hK) rfl W.nolim (codeRec_of W.K F.code) F.body (F.bind s W.K vs (by omega)) F.clos hkk (fun s₁ X c => ?_) F.coro F.gen F.kind)
  obtain ⟨h₁, t₁, rfl⟩ := X.toInCall.same
  have S := entry_st (base := base) (bs := ds.map Bnd.fz) F (by rw [List.length_map]; exact hl) hY (allB_of hr) X
  rw [fzs_zip] at S
  have W1 := entry_wd F W (by omega) X.toInCall.ns X.toInCall.keep c
  refine wpAny_mono (hb d _ hdn _ Y _ s.heap _ _ l (Around.frames_deeper hfr) W1 W.stays S) (fun f s₂ q => ?_) fun _ _ x => x
  obtain ⟨h', tk, rfl, ⟨v, rfl, r, k⟩, C⟩ := q
  exact ⟨r, keeps_ext s h' tk k⟩
end
end Mine
end

section
open PySem PySem.W PyProof.Rows PySem.Calls
namespace Mine

section
variable {prog : Program} {w : World} {base : Heap} {d : Nat} {env : Env} {ρ : List (Str × Bnd)} {P : Params}

/-- a name has gone out of the frame -/
theorem gone_stored {h h' : Heap} {n : Str} {m : Str → Option Value} {v : Option Value} (F : Fw env h) (hl : env.kindOf n = some .local) (hn : h.Ns env.locals m) (hn' : h'.Ns env.locals (fun x => if x = n then v else m x)) (hs : Heap.SameBut env.locals h h')
    (hc : ∀ o, h.get? env.locals = some o → ∃ o', h'.get? env.locals = some o' ∧ o'.cls = o.cls) : Stored env [n] h h' := by
  have hslot : slotOf env n = env.locals := by unfold slotOf; rw [hl]
  refine ⟨⟨F.kind, F.glob, F.blt, ⟨_, hn'⟩, fun k c hm => let ⟨u, e⟩ := F.cells k c hm; ⟨u, e.sameBut hs (F.off k c hm)⟩, F.apart, F.off, F.has⟩, fun y u hy V => ?_, fun b o hb e => ?_, fun b ⟨o, e⟩ => ?_, fun b o e q => ?_⟩
  · have hy : y ≠ n := fun e => hy (e ▸ .head _)
    rcases V with ⟨h1, m', h2, h3⟩ | ⟨h1, c', h2, h3⟩
    · refine .inl ⟨h1, _, hn', ?_⟩
      rw [if_neg hy]
      obtain ⟨o, es, ep, ho, hd, _, hf⟩ := hn
      obtain ⟨o', es', ep', ho', hd', _, hf'⟩ := h2
      rw [ho] at ho'; cases ho'; rw [hd] at hd'; cases hd'
      rw [← hf y, hf' y]; exact h3
    · exact .inr ⟨h1, c', h2, h3.sameBut hs (F.off y c' (mem_of_lookup h2))⟩
  · exact hs.extBut b o (fun q => hb (by rw [List.map_cons, hslot]; exact q ▸ .head _)) e
  · by_cases q : b = env.locals
    · subst q
      obtain ⟨o', _, _, e', _⟩ := hn'
      exact ⟨o', e'⟩
    · exact ⟨o, hs.extBut b o q e⟩
  · by_cases z : b = env.locals
    · subst z
      obtain ⟨o', _, _, ho', hd', _⟩ := hn'
      obtain ⟨o'', ho'', hcl⟩ := hc o e
      rw [ho'] at ho''; cases ho''
      exact ⟨o', ho', fun vs q => (by rw [hd'] at q; cases q), hcl⟩
    · exact ⟨o, hs.extBut b o z e, q, rfl⟩

/-- what is stored under a name that ρ does not know -/
theorem St.unknown {Y M : List Addr} {h₀ h h' : Heap} {n : Str} (S : St base Y M env ρ h₀ h) (T : Stored env [n] h h') (hx : Storable env n) (hn : ρ.lookup n = none) : St base Y M env ρ h₀ h' := by
  obtain ⟨ft, v1, v2, v3⟩ := S.var
  refine S.stored ⟨v1, v2, v3⟩ T (fun y hy => by rw [List.mem_singleton.mp hy]; exact hx) ⟨fun _ => [], fun y hy b e => ?_, fun _ _ _ m => (nomatch m), fun _ _ _ _ _ _ m => (nomatch m)⟩ fun y _ b e => e
  rw [List.mem_singleton.mp hy, hn] at e
  cases e

theorem ex1t_told {dn dp : PyData} {T : Str} {k : Nat} {p1 p2 p3 p4 p5 p6 p7 p8 p9 p10 p11 p12 p13 p14 p15 : Pos} (k1 : env.kindOf "told" = some .local) (k2 : env.kindOf "error" = some .local) (g1 : env.kindOf "_law_line" = some .globalImplicit) (g2 : env.kindOf "NetrcParseError" = some .globalImplicit) (g3 : env.kindOf "_safe_string" = some .globalImplicit)
    (hf : env.frame = some env.locals) (hρ : ρ.lookup ("error" : Str) = none) (hn : ρ.lookup ("names" : Str) = some (.fz dn)) (hp : ρ.lookup ("pairs" : Str) = some (.fz dp)) (hdd : d + 12 ≤ 500)
    (hl : Fn prog w (hd.heap_39 P) base 8 145 [dn, dp] (.str T) ∨ ∃ m f ln, FnR prog w (hd.heap_39 P) base 8 145 [dn, dp] m f ln ∧ T = peText m f ln ∧ m.length ≤ 10000 ∧ f.length ≤ 10000 ∧ ln.natAbs.log2 < 1920 ∧ (toString ln : Str).length ≤ 100)
    (hs1 : swapsWith (.Call (.Name "_law_line" p2) [.Name "names" p3, .Name "pairs" p4] [] p5) (some (.Name "told" p1)) p6.line env = pure false)
    (hs2 : swapsWith (.Call (.Name "_safe_string" p9) [.Name "error" p10, .Constant (.str "exception") k p11] [] p12) (some (.Name "told" p8)) p13.line env = pure false) :
    Ex1T prog w (hd.heap_39 P) base d env ρ (.Try [.Assign [.Name "told" p1] (.Call (.Name "_law_line" p2) [.Name "names" p3, .Name "pairs" p4] [] p5) p6]
      [.ExceptHandler (some (.Name "NetrcParseError" p7)) (some "error") [.Assign [.Name "told" p8] (.Call (.Name "_safe_string" p9) [.Name "error" p10, .Constant (.str "exception") k p11] [] p12) p13] p14] [] [] p15) (.next (("told", .fz (.str T)) :: ρ)) := fun A Y M h₀ s E l hfr W B S => by
  refine wpAny_Try_except ?_
  rcases hl with hok | ⟨m, f, ln, hR, rfl, z1, z2, z3, z4⟩
  · have h1 : Ex1 prog w (hd.heap_39 P) base d env ρ (.Assign [.Name "told" p1] (.Call (.Name "_law_line" p2) [.Name "names" p3, .Name "pairs" p4] [] p5) p6) (.next (("told", .fz (.str T)) :: ρ)) :=
      ex_set (.inl k1) (Fn.ev hok (by omega) (fnAt_line P) rfl g1 (evs_cons (ev_fz hn) (evs_cons (ev_fz hp) evs_nilS))) hs1
    refine wpAny_mono ((ex_cons h1 ex_nil) A Y M h₀ s _ W B S) (fun fl s₁ q => ?_) fun _ _ x => x
    obtain ⟨h', tk, rfl, ⟨rfl, M', S', hM⟩, C⟩ := q
    exact wpAny_execs_nil ⟨h', tk, rfl, ⟨rfl, M', S', hM⟩, C⟩
  · refine wpAny_execs_cons (wpAny_Assign_Name (hs := hs1) ?_)
    refine Call_Name rfl (wpAny_mono (ev_global (K := hd.heap_39 P) (base := base) (d := d) (ρ := ρ) (p := p2) (u := .ref 145) rfl g1 (by decide) A _ s _ W S.nm) (fun fv s₁ q => ?_) fun _ _ x => x)
    obtain ⟨rfl, q1⟩ := q
    obtain ⟨oc, od, osl, hK⟩ := (fnAt_line P).at_
    refine PySem.Calls.callWith_function (o := ⟨oc, od, .func (fdP P 145), osl⟩) (fd := fdP P 145) ?_
    have he : Evs prog w (hd.heap_39 P) base d env ρ p5 [.Name "names" p3, .Name "pairs" p4] (AllS [dn, dp]) := evs_cons (ev_fz hn) (evs_cons (ev_fz hp) evs_nilS)
    refine evalArgs_plain (wpAny_mono (he A (Y ++ M) s₁ _ (W.keeps (kext q1)) (S.nm.keeps (kext q1))) (fun vs s₂ q₂ => ?_) fun _ _ x => x)
    obtain ⟨r2, q2⟩ := q₂
    have q12 := keeps_trans q1 q2
    have W2 := W.keeps (kext q12)
    have S2 := S.keeps (kext q12)
    refine ⟨⟨W2.K _ _ hK, rfl⟩, ?_⟩
    refine wpAny_mono (hR d A (Y ++ M) s₂ _ vs (env :: l) (by omega) W2 S2.alive r2 hfr fun e h' tk F => ?_) (fun _ _ x => x.elim) fun _ _ x => x
    refine land_pe (s := { s₂ with heap := h', toks := tk }) W.b.inK hfr hf S.fw.kind S.fw.glob g2 F fun h6 F6 => ?_
    have k6 : Hext base s₂.heap h6 := F6.hext W2 hfr
    have S6 := S2.keeps k6
    obtain ⟨ox, dx, es, n', t1, t2, t3, I6, od6, ndx, a1, a2, a3⟩ := F6.obj (fun a ha => by
      obtain ⟨l', e1, _, e3⟩ := W2.fr
      obtain rfl : env :: l = l' := by rw [hfr] at e1; exact Option.some.inj e1
      obtain ⟨o, r, _⟩ := e3 a ha
      exact ⟨o, r⟩)
    have ne : s₂.heap.get? e = none := by
      obtain ⟨_, _, _, _, _, _, _, _, _, ne, _⟩ := F6
      exact ne
    obtain ⟨h2, tk2, rfl, kx2⟩ := q12
    have alL : ∃ o, h2.get? env.locals = some o := S2.alive _ (List.mem_append_right _ (S2.frameM _ (.head _)))
    have neL : ∀ b, h2.get? b = none → b ≠ env.locals := fun b q r => by obtain ⟨o, z⟩ := alL; rw [← r] at z; rw [q] at z; cases z
    have slE : slotOf env "error" = env.locals := by unfold slotOf; rw [k2]
    refine store1 S6.fw (.inl k2) fun h7 tk7 T7 V7 => ?_
    have S7 := S6.unknown T7 (.inl k2) hρ
    have off7 : ∀ b o, h2.get? b = none → h6.get? b = some o → h7.get? b = some o := fun b o q r => T7.out b o (fun mm => neL b q (by
      rw [List.map_cons, List.map_nil, List.mem_singleton] at mm
      exact mm.trans slE)) r
    have I7 : InstAt h7 e ox 83 (some (dictOf es n')) := by
      obtain ⟨i1, i2, i3, i4⟩ := I6
      refine ⟨off7 _ _ ne i1, i2, i3, ?_⟩
      rw [od6] at i4 ⊢
      exact off7 _ _ ndx i4
    have st7 : base.StaysIn h7 := S7.keep.stays (fun _ m => nomatch m) B
    have X7 : (hd.heap_39 P).In h7 := W.b.inK.keeps st7
    have hdep := W.depth
    have hun := W.units
    refine wpAny_execs_cons (wpAny_Assign_Name (hs := hs2) ?_)
    refine Call_Name rfl (Name_function_global S.fw.kind g3 ?_ (by decide))
    unfold loadGlobal
    rw [S.fw.glob]
    refine wpAny_bind (looks_nsIn (M := model prog w) X7 (rfl : nsIn (hd.heap_39 P) mainGlobals "_safe_string" = some (some (.ref 39))) _ _ _ _ (fun _ _ e => e) (wpAny_pure ?_))
    obtain ⟨oc9, od9, osl9, hK9⟩ : ∃ oc od osl, (hd.heap_39 P).lookup 39 = some ⟨oc, od, .func (fdP P 39), osl⟩ := ⟨_, _, _, rfl⟩
    refine PySem.Calls.callWith_function (o := ⟨oc9, od9, .func (fdP P 39), osl9⟩) (fd := fdP P 39) (evalArgs_plain (spliced_cons (wpAny_Name (V7.load S7.fw.kind (spliced_cons (Constant_str (k := k) (pos := p11) (spliced_nil ⟨⟨X7 _ _ hK9, rfl⟩, ?_⟩)))))))
    refine safe_pe (by show A.depth + 2 < 1000; omega) (by show A.units + 20 < 9900; omega) X7 (W.b.nolim.keeps st7) I7 a1 a2 a3 z1 z2 z3 z4 fun h8 tk8 t8 k8 => ?_
    have S8 := S7.keeps (.of' k8)
    refine store1 S8.fw (.inl k1) fun h9 tk9 T9 V9 => wpAny_execs_nil ?_
    have S9 : St base Y M env (fzs [("told", .str (peText m f ln))] ++ ρ) h₀ h9 := S8.binds (bs := [("told", .str (peText m f ln))]) T9 (fun y hy => by rw [List.mem_singleton.mp hy]; exact .inl k1) fun y dy e => by
      simp only [List.lookup_cons] at e
      split at e
      · rename_i hz
        cases e
        rw [beq_iff_eq.mp hz]
        exact ⟨_, V9, .str _ _⟩
      · simp at e
    obtain ⟨m9, hn9⟩ := S9.fw.ns
    refine name_goes_c k2 hn9 (by rw [S.fw.kind]; rfl) fun h10 v tk10 hn10 hs10 hc10 => ?_
    have T10 := gone_stored S9.fw k2 hn9 hn10 hs10 hc10
    have S10 := S9.unknown T10 (.inl k2) (by
      show List.lookup ("error" : Str) ((("told" : Str), Bnd.fz (.str (peText m f ln))) :: ρ) = none
      rw [List.lookup_cons, beq_false_of_ne (by decide)]; exact hρ)
    have slT : slotOf env "told" = env.locals := by unfold slotOf; rw [k1]
    have hLM : env.locals ∈ M := S.frameM _ (.head _)
    have c6 : Chg base M s.heap h6 := .ext (hext_trans kx2 k6)
    have c7 : Chg base M h6 h7 := ⟨Hout.of fun b o hb r => T7.out b o (fun mm => hb (by
      rw [List.map_cons, List.map_nil, List.mem_singleton] at mm
      rw [mm, slE]; exact hLM)) r, T7.frames⟩
    have c8 : Chg base M h7 h8 := .ext (.of' k8)
    have c9 : Chg base M h8 h9 := ⟨Hout.of fun b o hb r => T9.out b o (fun mm => hb (by
      rw [List.map_cons, List.map_nil, List.mem_singleton] at mm
      rw [mm, slT]; exact hLM)) r, T9.frames⟩
    have c10 : Chg base M h9 h10 := ⟨Hout.of fun b o hb r => T10.out b o (fun mm => hb (by
      rw [List.map_cons, List.map_nil, List.mem_singleton] at mm
      rw [mm, slE]; exact hLM)) r, T10.frames⟩
    have I : ∀ {h : Heap}, ∀ a ∈ M, a ∈ M ∨ h.get? a = none := fun _ q => .inl q
    exact ⟨h10, tk10, rfl, ⟨rfl, M, S10, I⟩, (((c6.trans c7 I).trans c8 I).trans c9 I).trans c10 I⟩
end
end Mine
end

section
open PySem PySem.W PyProof.Rows PySem.Calls
namespace Mine

/-! law -/
noncomputable def nameF (d : PyData) : PyData := .str (hj ((lOf (at0 d)).map sOf))
theorem nameF_host (h : Host) : nameF (hostD h) = .str (hj h.1) := by
  have : (h.1.map PyData.str).map sOf = h.1 := by
    rw [List.map_map]
    have e : (sOf ∘ PyData.str) = id := rfl
    rw [e, List.map_id]
  show PyData.str (hj ((h.1.map PyData.str).map sOf)) = _
  rw [this]
theorem names_data (hs : List Host) : (namesOf hs).map PyData.str = (hs.map hostD).map nameF := by
  unfold namesOf
  rw [List.map_map, List.map_map]
  exact List.map_congr_left fun h _ => (nameF_host h).symm
noncomputable def ladD (ls : List Str) : PyData := .list ((List.range 5).map fun i => .str (rungL ls i))
noncomputable def ladF (hs : List Host) (d : PyData) : PyData := ((hs.find? fun h => hj h.1 == sOf d).map fun h => ladD h.1).getD .none
theorem ladF_name {hs : List Host} (G : GoodH hs) {h : Host} (hh : h ∈ hs) : ladF hs (.str (hj h.1)) = ladD h.1 := by
  unfold ladF
  cases q : hs.find? fun g => hj g.1 == sOf (.str (hj h.1)) with
  | none =>
    have := List.find?_eq_none.mp q h hh
    exact absurd (beq_self_eq_true (hj h.1)) this
  | some g =>
    have h1 := List.find?_some q
    have h2 := List.mem_of_find?_eq_some q
    have e : g.1 = h.1 := hj_inj _ _ _ (Nat.le_refl _) (G.lab g h2).1 (G.lab h hh).1 (beq_iff_eq.mp h1)
    show ladD g.1 = _
    rw [e]
theorem lads_data {hs : List Host} (G : GoodH hs) : hs.map (fun h => ladD h.1) = ((namesOf hs).map PyData.str).map (ladF hs) := by
  unfold namesOf
  rw [List.map_map, List.map_map]
  exact List.map_congr_left fun h hh => (ladF_name G hh).symm
theorem lab_sum {ls : List Str} (hl : ∀ l ∈ ls, Lab l) (h3 : ls.length ≤ 3) : ((("h" : Str) :: ls).map (·.length)).sum + (("h" : Str) :: ls).length * (".": Str).length ≤ 200 := by
  have e1 : ("h" : Str).length = 1 := by decide
  have e2 : ("." : Str).length = 1 := by decide
  have h1 := sum_le (fun y : Str => y.length) 40 ls fun l h => (hl l h).le
  rw [List.map_cons, List.sum_cons, List.length_cons, e1, e2]
  omega
theorem ok_rung {ls : List Str} (hl : ∀ l ∈ ls, Lab l) (i : Nat) : PyData.strOk (rungL ls i) = true := by
  unfold rungL
  split
  · exact hj_ok fun l h => hl l (List.mem_of_mem_take h)
  · decide +kernel
theorem ok_lad {ls : List Str} (hl : ∀ l ∈ ls, Lab l) : OkD 1 (ladD ls) := ok_list fun d hd => by
  obtain ⟨i, _, rfl⟩ := List.mem_map.mp hd
  exact ok_str (ok_rung hl i)
theorem eqv_lad (ls : List Str) : PyData.eqv (ladD ls) (ladD ls) = true := by
  have e : (List.range 5).map (fun i => PyData.str (rungL ls i)) = ((List.range 5).map (rungL ls)).map PyData.str := by rw [List.map_map]; rfl
  unfold ladD
  rw [e, eqv_strl]
  exact decide_eq_true rfl

theorem fnAt_law (P : Params) : FnAt (hd.heap_39 P) 155 (fdP P 155) (bodyOf (fdP P 155)) ["script"] :=
  ⟨⟨_, _, _, rfl⟩, rfl, rfl, rfl, by kernel_rfl, rfl, bind_of1 fun _ x => binds_script x ⟨rfl, rfl, rfl, rfl, rfl⟩ rfl, by decide +kernel, psB_k (by kernel_rfl), scopeB_n (by kernel_rfl), scopeB_f (by kernel_rfl), rfl, rfl, rfl⟩

section
variable {prog : Program} {w : World} {base : Heap} {d : Nat} {L : Addr} {env : Env} {P : Params} {ns : List Int} {hs : List Host}
/-- the hosts, the names and the ladders -/
theorem law_pre (hE : callEnvC (fdP P 155) L 155 = env) (hdd : d + 10 ≤ 500) (h63 : ns.length ≤ 63) (hH : hostsOf ns = hs) (G : GoodH hs) :
    Ex prog w (hd.heap_39 P) base d env [("script", .fz (.list (ns.map PyData.int)))] ((bodyOf (fdP P 155)).take 3) (.next [("ladders", .fz (.list (hs.map fun h => ladD h.1))), ("names", .fz (.list ((namesOf hs).map PyData.str))), ("hosts", .fz (.list (hs.map hostD)))]) := by
  have k1 : Storable env "hosts" := by rw [← hE]; exact .inl rfl
  have k2 : Storable env "names" := by rw [← hE]; exact .inl rfl
  have k3 : Storable env "ladders" := by rw [← hE]; exact .inl rfl
  have g1 : env.kindOf "_law_hosts" = some .globalImplicit := by rw [← hE]; rfl
  have h6 := G.len
  have hlenH : (hs.map hostD).length = hs.length := List.length_map ..
  refine ex_cons (ex_set (x := "hosts") (dd := .list (hs.map hostD)) k1 (Fn.ev (hH ▸ fn_hosts h63) (by omega) (fnAt_hosts P) rfl g1 (evs_cons (ev_fz rfl) evs_nilS))) ?_
  refine ex_cons (ex_comp (x := "names") (ds := (namesOf hs).map PyData.str) k2 ?_ (by rw [← hE]; rfl)) ?_
  · rw [names_data]
    refine cu_each (fz := false) (it_S (ev_fz rfl)) (scopeOk rfl rfl (by rw [← hE]; rfl)) (fun dd => [("labels", at0 dd), ("code", at1 dd)]) nameF (fun C dd hd' => ?_) (fun dd _ x hx => ?_) (fun C dd hd' => ?_) (by rw [hlenH]; omega)
    · obtain ⟨h, _, rfl⟩ := List.mem_map.mp hd'
      exact asg_pair (d1 := .list (h.1.map PyData.str)) (d2 := .int h.2) (.inl rfl) (.inl rfl) (by decide)
    · rcases List.mem_cons.mp hx with rfl | hx
      · exact .inl rfl
      · rw [List.mem_singleton.mp hx]; exact .inl rfl
    · obtain ⟨h, hh, rfl⟩ := List.mem_map.mp hd'
      rw [nameF_host]
      have hl := G.lab h hh
      refine ev_join (ys := "h" :: h.1) ?_ (Nat.le_trans (lab_sum hl.1 hl.2) (by decide)) rfl
      exact (ev_cat (ds := [.str "h"]) (es := h.1.map PyData.str) (ev_list (evs_cons ev_str evs_nilS) (by show 1 ≤ 1000; decide)).n_l (ev_fz rfl).s_l (by rw [List.length_map]; show 1 + _ ≤ _; omega)).n_l
  refine (ex_cons (ex_comp (x := "ladders") (ds := hs.map fun h => ladD h.1) k3 ?_ (by rw [← hE]; rfl)) ex_nil).weak (sub_cons rfl (sub_cons rfl (sub_cons rfl sub_nil)))
  rw [lads_data G]
  refine cu_name (fz := false) (it_S (ev_fz rfl)) (scopeOk rfl rfl (by rw [← hE]; rfl)) (ladF hs) rfl (fun C dd hd' => ?_) (by unfold namesOf; rw [List.length_map, List.length_map]; omega)
  obtain ⟨nm, hnm, rfl⟩ := List.mem_map.mp hd'
  obtain ⟨h, hh, rfl⟩ := List.mem_map.mp hnm
  rw [ladF_name G hh]
  have hl := G.lab h hh
  exact Fn.ev (fn_rungs hl.1 hl.2) (by omega) (fnAt_rungs P) rfl rfl (evs_cons (ev_fz rfl) evs_nilS)
end
end Mine
end

section
open PySem PySem.W PyProof.Rows PySem.Calls
namespace Mine

noncomputable def bOf : PyData → Bool
  | .bool b => b
  | _ => false
noncomputable def noDot (x : Str) : Bool := decide (∀ i, i < x.length → x.cps.getD i 0 ≠ 46)
theorem noDot_rung {ls : List Str} (hl : ∀ l ∈ ls, Lab l) (h3 : ls.length ≤ 3) (i : Nat) : noDot (rungL ls i) = decide (ls.length ≤ i) := by
  unfold noDot
  by_cases h : ls.length ≤ i
  · rw [decide_eq_true h]
    refine decide_eq_true ?_
    by_cases hi : i ≤ ls.length
    · have e1 : rungL ls i = "h" := by
        unfold rungL; rw [if_pos hi, show ls.length - i = 0 by omega, List.take_zero]; rfl
      rw [e1]; exact h_nodot
    · have e1 : rungL ls i = failText := by unfold rungL; rw [if_neg hi]
      rw [e1]; exact fail_nodot
  · rw [decide_eq_false h]
    refine decide_eq_false fun q => ?_
    have e1 : rungL ls i = hj (ls.take (ls.length - i)) := by unfold rungL; rw [if_pos (by omega)]
    have hk : ls.length - (i + 1) < ls.length := by omega
    have e3 : ls.take (ls.length - i) = ls.take (ls.length - (i + 1)) ++ [ls[ls.length - (i + 1)]] := by
      rw [show ls.length - i = ls.length - (i + 1) + 1 by omega, List.take_add_one, List.getElem?_eq_getElem hk]; rfl
    have hm := hj_match (ls.take (ls.length - (i + 1))) ls[ls.length - (i + 1)] (hl _ (List.getElem_mem hk))
    rw [← e3, ← e1] at hm
    exact q _ (by have := hm.1; omega) hm.2.1
noncomputable def saidD (n : Nat) : List PyData := (List.range 5).map fun i => .bool (decide (n ≤ i))
theorem said_data {ls : List Str} (hl : ∀ l ∈ ls, Lab l) (h3 : ls.length ≤ 3) : saidD ls.length = ((List.range 5).map fun i => PyData.str (rungL ls i)).map fun d => PyData.bool (noDot (sOf d)) := by
  unfold saidD
  rw [List.map_map]
  refine List.map_congr_left fun i _ => ?_
  show _ = PyData.bool (noDot (rungL ls i))
  rw [noDot_rung hl h3]
theorem said_false : ∀ n, n ≤ 3 → ((saidD n).take n).map (fun d => PyData.bool (bOf d == false)) = List.replicate n (.bool true)
  | 0, _ => rfl
  | 1, _ => rfl
  | 2, _ => rfl
  | 3, _ => rfl
theorem said_true : ∀ n, n ≤ 3 → ((saidD n).drop n).map (fun d => PyData.bool (bOf d == true)) = List.replicate (5 - n) (.bool true)
  | 0, _ => rfl
  | 1, _ => rfl
  | 2, _ => rfl
  | 3, _ => rfl
theorem eqv_rep : ∀ n : Nat, n ≤ 5 → PyData.eqv (.list (List.replicate n (.bool true))) (.list (List.replicate n (.bool true))) = true
  | 0, _ => rfl
  | 1, _ => rfl
  | 2, _ => rfl
  | 3, _ => rfl
  | 4, _ => rfl
  | 5, _ => rfl
theorem ok_rep (n : Nat) : OkD 1 (.list (List.replicate n (.bool true))) := ok_list fun d hd => by rw [List.eq_of_mem_replicate hd]; exact ok_bool _
theorem rungs_data (ls : List Str) (h3 : ls.length ≤ 3) : ((List.range (ls.length + 1)).map fun i => PyData.str (rungL ls i)) ++ List.replicate (4 - ls.length) (PyData.str failText) = (List.range 5).map fun i => PyData.str (rungL ls i) := by
  have e : List.range 5 = List.range (ls.length + 1) ++ (List.range (4 - ls.length)).map (fun x => ls.length + 1 + x) := by
    rw [← List.range_add]; congr 1; omega
  rw [e, List.map_append, List.map_map]
  congr 1
  have e2 : List.replicate (4 - ls.length) (PyData.str failText) = (List.range (4 - ls.length)).map fun _ => PyData.str failText := by rw [List.map_const', List.length_range]
  rw [e2]
  refine List.map_congr_left fun x _ => ?_
  show _ = PyData.str (rungL ls (ls.length + 1 + x))
  unfold rungL
  rw [if_neg (by omega)]
theorem down_data (ls : List Str) : ((List.range (((ls.length : Nat) : Int).toNat + 1)).map fun i : Nat => PyData.int ((ls.length : Int) - i)).map (fun d => PyData.str (hj (ls.take (iOf d).toNat))) = (List.range (ls.length + 1)).map fun i => PyData.str (rungL ls i) := by
  rw [List.map_map, Int.toNat_natCast]
  refine List.map_congr_left fun i hi => ?_
  have hi := List.mem_range.mp hi
  show PyData.str (hj (ls.take (((ls.length : Int) - (i : Int)).toNat))) = _
  unfold rungL
  rw [if_pos (by omega), show ((ls.length : Int) - (i : Int)).toNat = ls.length - i by omega]

theorem Tst.of {prog : Program} {w : World} {K : Frag} {base : Heap} {d : Nat} {env : Env} {ρ : List (Str × Bnd)} {e : Expr} {b b' : Bool} (h : b' = b) (t : Tst prog w K base d env ρ e b') : Tst prog w K base d env ρ e b := h ▸ t
noncomputable def lawρ (hs : List Host) : List (Str × Bnd) := [("ladders", .fz (.list (hs.map fun h => ladD h.1))), ("names", .fz (.list ((namesOf hs).map PyData.str))), ("hosts", .fz (.list (hs.map hostD)))]

section
variable {prog : Program} {w : World} {base : Heap} {d : Nat} {L : Addr} {env : Env} {P : Params} {hs : List Host}
theorem law_rungs (hE : callEnvC (fdP P 155) L 155 = env) (hdd : d + 10 ≤ 500) (G : GoodH hs) :
    Ex1 prog w (hd.heap_39 P) base d env (lawρ hs) (stAt P 155 3) (.next (lawρ hs)) := by
  have k1 : Storable env "place" := by rw [← hE]; exact .inl rfl
  have k2 : Storable env "labels" := by rw [← hE]; exact .inr ⟨rfl, _, rfl⟩
  have k3 : Storable env "rungs" := by rw [← hE]; exact .inl rfl
  have k4 : Storable env "said" := by rw [← hE]; exact .inl rfl
  have g1 : env.kindOf "len" = some .globalImplicit := by rw [← hE]; rfl
  have g2 : env.kindOf "range" = some .globalImplicit := by rw [← hE]; rfl
  have h6 := G.len
  have hlenH : (hs.map hostD).length = hs.length := List.length_map ..
  refine ex_for (ds := natsD (List.range hs.length)) (it_rangeLen rfl hlenH h6 g1 g2) (fun dd => [("place", dd)]) (fun i => lawρ hs)
    (fun dd _ => asg_name k1) (fun dd _ x hx => by rw [List.mem_singleton.mp hx]; exact k1) (fun _ _ e => e) fun i dd hdi => ?_
  obtain ⟨hi, rfl⟩ := nat_at hdi
  have hm := G.at hi
  have hlab := G.lab _ hm
  have hlad : (hs.map fun h => ladD h.1)[i]? = some (ladD (hs.getD i ([], 0)).1) := by
    rw [List.getElem?_map, List.getD_eq_getElem?_getD, List.getElem?_eq_getElem hi]; rfl
  refine ex_cons (ex_set (x := "labels") (dd := .list ((hs.getD i ([], 0)).1.map PyData.str)) k2 (ev_labels rfl rfl hi h6)) ?_
  generalize (hs.getD i ([], 0)).1 = ls at *
  clear hm
  obtain ⟨hl, h3⟩ := hlab
  have hll : (ls.map PyData.str).length = ls.length := List.length_map ..
  have lenE : ∀ {ρ : List (Str × Bnd)} {p1 p2 p3 : Pos}, ρ.lookup ("labels" : Str) = some (.fz (.list (ls.map PyData.str))) → Ev prog w (hd.heap_39 P) base d env ρ (.Call (.Name "len" p1) [.Name "labels" p2] [] p3) (IsS (.int (ls.length : Int))) := fun h => by
    rw [← hll]
    exact ev_len rfl g1 (ev_fz h).s_l (by rw [hll]; omega)
  refine ex_cons (ex_comp (x := "rungs") (ds := (List.range (ls.length + 1)).map fun i => PyData.str (rungL ls i)) k3 ?_ (by rw [← hE]; rfl)) ?_
  · rw [← down_data]
    refine cu_name (fz := false) (it_range_down (n := (ls.length : Int)) (lenE rfl).s_w (ev_neg ev_int.s_w).s_w (ev_neg ev_int.s_w).s_w (by omega) (by omega) rfl g2) (scopeOk rfl rfl (by rw [← hE]; rfl)) _ rfl (fun C dd hd' => ?_) (by rw [List.length_map, List.length_range]; omega)
    obtain ⟨j, hj', rfl⟩ := List.mem_map.mp hd'
    have hj2 := List.mem_range.mp hj'
    have hls : ∀ l ∈ ls.take ((ls.length : Int) - (j : Int)).toNat, Lab l := fun l h => hl l (List.mem_of_mem_take h)
    have hlt : (ls.take ((ls.length : Int) - (j : Int)).toNat).length ≤ 3 := by rw [List.length_take]; omega
    refine ev_join (ys := "h" :: ls.take ((ls.length : Int) - (j : Int)).toNat) ?_ (Nat.le_trans (lab_sum hls hlt) (by decide)) rfl
    rw [List.map_cons, List.map_take]
    refine (ev_cat (ds := [.str "h"]) (ev_list (evs_cons ev_str evs_nilS) (by show 1 ≤ 1000; decide)).n_l (ev_take (ev_fz rfl).s_l (ev_fz rfl).s_w (by omega) (by rw [hll]; omega)).n_l ?_).n_l
    rw [List.length_take, hll]
    show 1 + _ ≤ _
    omega
  refine ex_cons (ex_set (x := "rungs") (dd := ladD ls) k3 ?_) ?_
  · unfold ladD
    rw [← rungs_data ls h3]
    have e4 : (4 - (ls.length : Int)).toNat = 4 - ls.length := by omega
    rw [← e4]
    refine (ev_cat (ev_fz rfl).s_l (ev_times (ev_list (evs_cons ev_str evs_nilS) (by show 1 ≤ 1000; decide)) (ev_sub ev_int.s_w (lenE rfl).s_w).s_w (by omega) (by omega)).n_l ?_).n_s
    rw [List.length_map, List.length_range, List.length_replicate]
    omega
  refine ex_cons (ex_if (b := false) ?_ (fun h => by cases h) (fun _ => ex_nil)) ?_
  · refine Tst.of (b' := !PyData.eqv (ladD ls) (ladD ls)) (by rw [eqv_lad]; rfl) ?_
    exact tst_cmp (ev_item (ds := hs.map fun h => ladD h.1) (k := (i : Int)) (ev_fz rfl).s_l (ev_fz rfl).s_w (by omega) (by omega) (by rw [Int.toNat_natCast]; exact hlad)).s_w (ev_fz rfl).s_w (cmp_ne ((ok_lad hl).more (by decide)) ((ok_lad hl).more (by decide))) (good_W _)
  refine ex_cons (ex_comp (x := "said") (ds := saidD ls.length) k4 ?_ (by rw [← hE]; rfl)) ?_
  · rw [said_data hl h3]
    refine cu_name (fz := false) (it_S (ev_fz rfl)) (scopeOk rfl rfl (by rw [← hE]; rfl)) (fun d => PyData.bool (noDot (sOf d))) rfl (fun C dd hd' => ?_) (by show 5 ≤ 1000; decide)
    obtain ⟨j, _, rfl⟩ := List.mem_map.mp hd'
    rw [show noDot (sOf (PyData.str (rungL ls j))) = decide (ls.length ≤ j) from noDot_rung hl h3 j]
    exact Fn.ev (fn_lib_rung ls hl h3 j) (by omega) (fnAt_lib P) rfl rfl (evs_cons (ev_fz rfl) evs_nilS)
  have memS : ∀ dd ∈ saidD ls.length, ∃ b, dd = .bool b := fun dd h => by
    obtain ⟨j, _, rfl⟩ := List.mem_map.mp h
    exact ⟨_, rfl⟩
  have hsl : (saidD ls.length).length = 5 := by unfold saidD; rw [List.length_map, List.length_range]
  have e1 := said_false ls.length h3
  have e2 := said_true ls.length h3
  generalize saidD ls.length = S at *
  refine ex_cons (ex_if (b := false) ?_ (fun h => by cases h) (fun _ => ex_nil)) ?_
  · refine Tst.of (b' := !PyData.eqv (.list (List.replicate ls.length (.bool true))) (.list (List.replicate ls.length (.bool true)))) (by rw [eqv_rep _ (by omega)]; rfl) ?_
    refine tst_cmp (F1 := IsW (.list (List.replicate ls.length (.bool true)))) (F2 := IsW (.list (List.replicate ls.length (.bool true)))) ?_ ?_ (cmp_ne ((ok_rep _).more (by decide)) ((ok_rep _).more (by decide))) (good_W _)
    · rw [← e1]
      have ht : (S.take ((ls.length : Nat) : Int).toNat) = S.take ls.length := by rw [Int.toNat_natCast]
      rw [← ht]
      refine Ev.n_w (CompU.ev (cu_name (fz := false) (it_S (ev_take (ev_fz rfl).s_l (lenE rfl).s_w (by omega) (by omega)).n_s) (scopeOk rfl rfl rfl) (fun d => PyData.bool (bOf d == false)) rfl (fun C dd hd' => ?_) (by rw [List.length_take]; omega)))
      obtain ⟨b, rfl⟩ := memS dd (List.mem_of_mem_take hd')
      exact ev_cmp (ev_fz rfl).s_w ev_bool.s_w cmp_is_bool (good_W _)
    · have ht : List.replicate ((ls.length : Nat) : Int).toNat (PyData.bool true) = List.replicate ls.length (.bool true) := by rw [Int.toNat_natCast]
      rw [← ht]
      exact (ev_times (ev_list (evs_cons ev_bool evs_nilS) (by show 1 ≤ 1000; decide)) (lenE rfl).s_w (by omega) (by omega)).n_w
  refine (ex_cons (ex_if (b := false) ?_ (fun h => by cases h) (fun _ => ex_nil)) ex_nil).weak (sub_cons rfl (sub_cons rfl (sub_cons rfl sub_nil)))
  refine Tst.of (b' := !PyData.eqv (.list (List.replicate (5 - ls.length) (.bool true))) (.list (List.replicate (5 - ls.length) (.bool true)))) (by rw [eqv_rep _ (by omega)]; rfl) ?_
  refine tst_cmp (F1 := IsW (.list (List.replicate (5 - ls.length) (.bool true)))) (F2 := IsW (.list (List.replicate (5 - ls.length) (.bool true)))) ?_ ?_ (cmp_ne ((ok_rep _).more (by decide)) ((ok_rep _).more (by decide))) (good_W _)
  · rw [← e2]
    have ht : (S.drop ((ls.length : Nat) : Int).toNat) = S.drop ls.length := by rw [Int.toNat_natCast]
    rw [← ht]
    refine Ev.n_w (CompU.ev (cu_name (fz := false) (it_S (ev_drop (ev_fz rfl).s_l (lenE rfl).s_w (by omega) (by omega)).n_s) (scopeOk rfl rfl rfl) (fun d => PyData.bool (bOf d == true)) rfl (fun C dd hd' => ?_) (by rw [List.length_drop]; omega)))
    obtain ⟨b, rfl⟩ := memS dd (List.mem_of_mem_drop hd')
    exact ev_cmp (ev_fz rfl).s_w ev_bool.s_w cmp_is_bool (good_W _)
  · have ht : List.replicate (5 - (ls.length : Int)).toNat (PyData.bool true) = List.replicate (5 - ls.length) (.bool true) := by congr 1; omega
    rw [← ht]
    exact (ev_times (ev_list (evs_cons ev_bool evs_nilS) (by show 1 ≤ 1000; decide)) (ev_sub ev_int.s_w (lenE rfl).s_w).s_w (by omega) (by omega)).n_w
end
end Mine
end

section
open PySem PySem.W PyProof.Rows PySem.Calls
namespace Mine

/-! texts that can be told -/
theorem strOk_app {x y : Str} (hx : PyData.strOk x = true) (hy : PyData.strOk y = true) : PyData.strOk (x ++ y) = true := by
  unfold PyData.strOk at hx hy ⊢
  show (x.cps ++ y.cps).all _ = true
  rw [Array.all_append, hx, hy]; rfl
theorem strOk_join {sep : Str} (hs : PyData.strOk sep = true) : ∀ {ys : List Str}, (∀ y ∈ ys, PyData.strOk y = true) → PyData.strOk (Txt.join sep ys) = true
  | [], _ => (show PyData.strOk (⟨#[]⟩ : Str) = true by decide +kernel)
  | y :: ys, h => by
    have key : ∀ (ys : List Str) (acc : Array Nat), (∀ y ∈ ys, PyData.strOk y = true) → PyData.strOk ⟨acc⟩ = true → PyData.strOk ⟨ys.foldl (fun acc p => acc ++ sep.cps ++ p.cps) acc⟩ = true := by
      intro ys
      induction ys with
      | nil => intro acc _ h; exact h
      | cons z zs ih =>
        intro acc h1 h2
        rw [List.foldl_cons]
        exact ih _ (fun y hy => h1 y (.tail _ hy)) (strOk_app (x := ⟨acc ++ sep.cps⟩) (y := z) (strOk_app (x := ⟨acc⟩) (y := sep) h2 hs) (h1 z (.head _)))
    exact key ys y.cps (fun z hz => h z (.tail _ hz)) (h y (.head _))
theorem strOk_words {names : List Str} (G : GoodN names) {l : List Nat} (h : ∀ k ∈ l, k < names.length) : PyData.strOk (wordsD names l) = true :=
  strOk_join (by decide +kernel) fun y hy => by
    obtain ⟨k, hk, rfl⟩ := List.mem_map.mp hy
    exact G.ok _ (getD_mem (h k hk))
theorem strOk_num : ∀ k : Nat, k ≤ 36 → PyData.strOk (toString (k : Int) : Str) = true := by decide +kernel

/-! the pairs -/
theorem pairsTo_succ (hs : List Host) (n : Nat) : pairsTo hs (n + 1) = pairsTo hs n ++ pairB hs n n := by
  unfold pairsTo
  rw [List.range_succ, List.flatMap_append]
  simp
theorem pairB_succ (hs : List Host) (b a : Nat) : pairB hs b (a + 1) = pairB hs b a ++ (if cmpH hs a b then [if bitH hs a b = true then (a, b) else (b, a)] else []) := by
  unfold pairB
  rw [List.range_succ, List.filter_append, List.map_append]
  congr 1
  cases h : cmpH hs a b <;> simp [List.filter, h]
theorem pairB_len (hs : List Host) (b m : Nat) : (pairB hs b m).length ≤ m := by
  unfold pairB
  rw [List.length_map]
  exact Nat.le_trans (List.length_filter_le _ _) (by rw [List.length_range]; exact Nat.le_refl _)
theorem pairsTo_len (hs : List Host) : ∀ n, (pairsTo hs n).length ≤ n * n
  | 0 => Nat.le_refl _
  | n + 1 => by
    have h1 := pairsTo_len hs n
    have h2 := pairB_len hs n n
    rw [pairsTo_succ, List.length_append, Nat.succ_mul, Nat.mul_succ]
    omega
theorem pairsN_len (ps : List (Nat × Nat)) : (pairsN ps).length = ps.length := List.length_map ..
theorem pairsN_app (a b : List (Nat × Nat)) : pairsN (a ++ b) = pairsN a ++ pairsN b := List.map_append ..

theorem any_lad {la lb : List Str} (ha : ∀ l ∈ la, Lab l) (hb : ∀ l ∈ lb, Lab l) (h3 : lb.length ≤ 3) :
    ((((List.range 5).map fun i => PyData.str (rungL lb i)).drop (1 : Int).toNat).any fun y => PyData.eqv y (.str (hj la))) = decide (la <+: lb ∧ la ≠ lb) := by
  have e : ((List.range 5).map fun i => PyData.str (rungL lb i)).drop (1 : Int).toNat = [1, 2, 3, 4].map fun i => PyData.str (rungL lb i) := rfl
  rw [e, Bool.eq_iff_iff, decide_eq_true_iff, ← on_ladder ha hb h3, List.any_eq_true]
  constructor
  · rintro ⟨y, hy, q⟩
    obtain ⟨i, hi, rfl⟩ := List.mem_map.mp hy
    rw [eqv_str, decide_eq_true_iff] at q
    have : i = 1 ∨ i = 2 ∨ i = 3 ∨ i = 4 := by simpa using hi
    exact ⟨i, by omega, by omega, q⟩
  · rintro ⟨i, h1, h2, q⟩
    refine ⟨_, List.mem_map.mpr ⟨i, ?_, rfl⟩, by rw [eqv_str, q]; exact decide_eq_true rfl⟩
    have : i = 1 ∨ i = 2 ∨ i = 3 ∨ i = 4 := by omega
    simpa using this
theorem lab_ne {hs : List Host} (G : GoodH hs) {a b : Nat} (hab : a < b) (hb : b < hs.length) : labH hs a ≠ labH hs b := by
  have h := List.pairwise_iff_getElem.mp G.nodup a b (by rw [List.length_map]; omega) (by rw [List.length_map]; exact hb) hab
  unfold labH
  rw [List.getD_eq_getElem?_getD, List.getD_eq_getElem?_getD, List.getElem?_eq_getElem (by omega), List.getElem?_eq_getElem hb]
  rw [List.getElem_map, List.getElem_map] at h
  exact h
theorem cmp_or {hs : List Host} (G : GoodH hs) {a b : Nat} (hab : a < b) (hb : b < hs.length) :
    (decide (labH hs a <+: labH hs b ∧ labH hs a ≠ labH hs b) || decide (labH hs b <+: labH hs a ∧ labH hs b ≠ labH hs a)) = cmpH hs a b := by
  have hne := lab_ne G hab hb
  rw [Bool.eq_iff_iff, cmpH_iff, Bool.or_eq_true, decide_eq_true_iff, decide_eq_true_iff]
  exact ⟨fun h => h.imp (·.1) (·.1), fun h => h.imp (⟨·, hne⟩) (⟨·, hne.symm⟩)⟩

section
variable {prog : Program} {w : World} {base : Heap} {d : Nat} {L : Addr} {env : Env} {P : Params} {hs : List Host}
theorem law_pairs (hE : callEnvC (fdP P 155) L 155 = env) (G : GoodH hs) :
    Ex1 prog w (hd.heap_39 P) base d env (("pairs", .own (pairsN [])) :: lawρ hs) (stAt P 155 5) (.next (("pairs", .own (pairsN (pairsTo hs hs.length))) :: lawρ hs)) := by
  have k1 : Storable env "b" := by rw [← hE]; exact .inl rfl
  have k2 : Storable env "a" := by rw [← hE]; exact .inl rfl
  have g1 : env.kindOf "len" = some .globalImplicit := by rw [← hE]; rfl
  have g2 : env.kindOf "range" = some .globalImplicit := by rw [← hE]; rfl
  have hi : interactive env = false := by rw [← hE]; rfl
  have h6 := G.len
  have hlenH : (hs.map hostD).length = hs.length := List.length_map ..
  have hlr : ∀ m : Nat, (natsD (List.range m)).length = m := fun m => by unfold natsD; rw [List.length_map, List.length_range]
  have ds0 : ∀ m : Nat, ((List.range ((m : Nat) : Int).toNat).map fun i : Nat => PyData.int i) = natsD (List.range m) := fun m => by rw [Int.toNat_natCast]; rfl
  have hnl : (namesOf hs).length = hs.length := List.length_map ..
  have nameE : ∀ {ρ : List (Str × Bnd)} {x : Str} {p1 p2 p3 : Pos} {i : Nat}, ρ.lookup ("names" : Str) = some (.fz (.list ((namesOf hs).map PyData.str))) → ρ.lookup x = some (.fz (natD i)) → i < hs.length → (x == ("__debug__" : Str)) = false →
      Ev prog w (hd.heap_39 P) base d env ρ (.Subscript (.Name "names" p1) (.Name x p2) p3) (IsS (.str (hj (labH hs i)))) := fun {ρ x p1 p2 p3 i} h1 h2 hi' hx => by
    have e : (namesOf hs).getD i ⟨#[]⟩ = hj (labH hs i) := by
      unfold namesOf labH
      rw [List.getD_eq_getElem?_getD, List.getElem?_map, List.getElem?_eq_getElem hi', List.getD_eq_getElem?_getD, List.getElem?_eq_getElem hi']; rfl
    rw [← e]
    exact ev_nameAt h1 h2 (by rw [hnl]; exact hi') (by rw [hnl]; exact h6) (by decide) hx
  have ladE : ∀ {ρ : List (Str × Bnd)} {x : Str} {p1 p2 p3 p4 p5 p6 : Pos} {k : Nat} {i : Nat}, ρ.lookup ("ladders" : Str) = some (.fz (.list (hs.map fun h => ladD h.1))) → ρ.lookup x = some (.fz (natD i)) → i < hs.length → (x == ("__debug__" : Str)) = false →
      Ev prog w (hd.heap_39 P) base d env ρ (.Subscript (.Subscript (.Name "ladders" p1) (.Name x p2) p3) (.Slice (some (.Constant (.int 1) k p4)) none none p5) p6) (IsW (.list (((List.range 5).map fun i' => PyData.str (rungL (labH hs i) i')).drop (1 : Int).toNat))) := fun {ρ x p1 p2 p3 p4 p5 p6 k i} h1 h2 hi' hx => by
    refine (ev_drop (ev_item (ds := hs.map fun h => ladD h.1) (k := (i : Int)) (x := ladD (labH hs i)) (ev_fz h1).s_l (ev_fz h2 hx).s_w (by omega) (by omega) ?_).s_l ev_int.s_w (by decide) (by show 5 ≤ 1000000; decide)).n_w
    unfold labH
    rw [Int.toNat_natCast, List.getElem?_map, List.getD_eq_getElem?_getD, List.getElem?_eq_getElem hi']; rfl
  have okL : ∀ i, i < hs.length → OkD 9 (.list (((List.range 5).map fun i' => PyData.str (rungL (labH hs i) i')).drop (1 : Int).toNat)) := fun i hi' => (ok_list (k := 1) fun dd hd' => by
    obtain ⟨j, _, rfl⟩ := List.mem_map.mp (List.mem_of_mem_drop hd')
    exact ok_str (ok_rung (G.lab _ (G.at hi')).1 j)).more (by decide)
  have okH : ∀ i, i < hs.length → OkD 9 (.str (hj (labH hs i))) := fun i hi' => ok_str (hj_ok (G.lab _ (G.at hi')).1)
  have key : Ex1 prog w (hd.heap_39 P) base d env (("pairs", .own (pairsN [])) :: lawρ hs) (stAt P 155 5) (.next ((fun b : Nat => ((("pairs" : Str), Bnd.own (pairsN (pairsTo hs b))) :: lawρ hs)) (natsD (List.range hs.length)).length)) := by
    refine ex_for (ds := natsD (List.range hs.length)) (it_rangeLen rfl hlenH h6 g1 g2) (fun dd => [("b", dd)]) (fun b : Nat => ((("pairs" : Str), Bnd.own (pairsN (pairsTo hs b))) :: lawρ hs))
      (fun dd _ => asg_name k1) (fun dd _ x hx => by rw [List.mem_singleton.mp hx]; exact k1) (fun _ _ e => e) fun b dd hdb => ?_
    obtain ⟨hb, rfl⟩ := nat_at hdb
    refine (ex_cons (ex_for (ds := natsD (List.range b)) (by rw [← ds0]; exact it_range (ev_fz rfl).s_w (by omega) (by omega) rfl g2) (fun dd => [("a", dd)]) (fun a : Nat => ((("pairs" : Str), Bnd.own (pairsN (pairsTo hs b ++ pairB hs b a))) :: ("b", .fz (natD b)) :: lawρ hs))
      (fun dd _ => asg_name k2) (fun dd _ x hx => by rw [List.mem_singleton.mp hx]; exact k2) ?_ fun a dd hda => ?_) ex_nil).weak ?_
    · refine sub_cons ?_ (sub_cons rfl (sub_cons rfl (sub_cons rfl (sub_cons rfl sub_nil))))
      show some _ = some _
      rw [show pairB hs b 0 = [] from rfl, List.append_nil]
    · obtain ⟨ha, rfl⟩ := nat_at hda
      have han : a < hs.length := by omega
      have hAm := G.at han
      have hBm := G.at hb
      have hC := G.code _ hAm
      have hp := two_pow6 b (by omega)
      have hbit : bitH hs a b = decide ((hs.getD a ([], 0)).2 / 2 ^ b % 2 = 1) := rfl
      have hsz : (pairsN (pairsTo hs b ++ pairB hs b a)).length ≤ 1000000 := by
        have h1 := pairsTo_len hs b
        have h2 := pairB_len hs b a
        have h3 : b * b ≤ 6 * 6 := Nat.mul_le_mul (by omega) (by omega)
        rw [pairsN_len, List.length_append]
        omega
      rw [pairB_succ]
      refine ex_cons (ex_if (b := cmpH hs a b) (o := .next ((("pairs" : Str), Bnd.own (pairsN (pairsTo hs b ++ (pairB hs b a ++ (if cmpH hs a b then [if bitH hs a b = true then (a, b) else (b, a)] else []))))) :: ("b", .fz (natD b)) :: lawρ hs)) ?_ (fun hc => ?_) (fun hc => ?_)) ex_nil
      · refine Tst.of (cmp_or G ha hb) (tst_or ?_ fun _ => ?_)
        · exact Tst.of (any_lad (la := labH hs a) (lb := labH hs b) (G.lab _ hAm).1 (G.lab _ hBm).1 (G.lab _ hBm).2) (tst_cmp (nameE rfl rfl han (by decide)).s_w (ladE rfl rfl hb (by decide)) (cmp_in (okH a han) (okL b hb)) (good_W _))
        · exact Tst.of (any_lad (la := labH hs b) (lb := labH hs a) (G.lab _ hBm).1 (G.lab _ hAm).1 (G.lab _ hAm).2) (tst_cmp (nameE rfl rfl hb (by decide)).s_w (ladE rfl rfl han (by decide)) (cmp_in (okH b hb) (okL a han)) (good_W _))
      · rw [hc, if_pos rfl, ← List.append_assoc, pairsN_app (pairsTo hs b ++ pairB hs b a)]
        have e1 : pairsN [if bitH hs a b = true then (a, b) else (b, a)] = [if bitH hs a b = true then pairN (a, b) else pairN (b, a)] := by
          unfold pairsN
          by_cases q : bitH hs a b = true
          · rw [if_pos q, if_pos q]; rfl
          · rw [if_neg q, if_neg q]; rfl
        rw [e1]
        refine (ex_cons (ex_append (x := "pairs") (ds := pairsN (pairsTo hs b ++ pairB hs b a)) (dd := if bitH hs a b = true then pairN (a, b) else pairN (b, a)) rfl ?_ hsz hi rfl rfl rfl) ex_nil).weak (sub_cons rfl (sub_cons rfl (sub_cons rfl (sub_cons rfl (sub_cons rfl sub_nil)))))
        refine ev_ife ?_ (fun _ => ?_) (fun _ => ?_)
        · rw [hbit]
          generalize hq : (hs.getD a ([], 0)).2 / 2 ^ b % 2 = bit
          have e2 : decide (bit = 1) = PyData.eqv (.int bit) (.int 1) := by
            show _ = ((bit == 1) : Bool)
            rw [Bool.eq_iff_iff]; simp
          rw [e2, ← hq]
          exact tst_cmp (ev_mod (ev_div (ev_code rfl rfl han h6).s_w (ev_powN ev_int.s_w (ev_fz rfl).s_w (by omega) (by decide)).s_w hp.2 hC.1 hC.2 hp.1).s_w ev_int.s_w (by decide)).s_w ev_int.s_w (cmp_eq (ok_int _) (ok_int _)) (good_W _)
        · exact ev_tuple (ds := [natD a, natD b]) (evs_cons (ev_fz rfl) (evs_cons (ev_fz rfl) evs_nilS)) (by show 2 ≤ 1000; decide)
        · exact ev_tuple (ds := [natD b, natD a]) (evs_cons (ev_fz rfl) (evs_cons (ev_fz rfl) evs_nilS)) (by show 2 ≤ 1000; decide)
      · rw [hc, if_neg (by decide), List.append_nil]
        exact ex_nil.weak (sub_cons rfl (sub_cons rfl (sub_cons rfl (sub_cons rfl (sub_cons rfl sub_nil)))))
    · rw [hlr, pairsTo_succ]
      exact sub_cons rfl (sub_cons rfl (sub_cons rfl (sub_cons rfl sub_nil)))
  rw [hlr] at key
  exact key
end
end Mine
end

section
open PySem PySem.W PyProof.Rows PySem.Calls
namespace Mine

theorem log_small : ∀ k : Nat, k ≤ 36 → ((k : Int)).natAbs.log2 < 1920 := by decide +kernel

section
variable {prog : Program} {w : World} {base : Heap} {P : Params} {hs : List Host}
/-- what the try statement asks of _law_line -/
theorem line_ends (G : GoodH hs) : Fn prog w (hd.heap_39 P) base 8 145 [.list ((namesOf hs).map PyData.str), .list (pairsN (pairsTo hs hs.length))] (.str (lineText (namesOf hs) hs.length (pairsTo hs hs.length))) ∨
    ∃ m f ln, FnR prog w (hd.heap_39 P) base 8 145 [.list ((namesOf hs).map PyData.str), .list (pairsN (pairsTo hs hs.length))] m f ln ∧ lineText (namesOf hs) hs.length (pairsTo hs hs.length) = peText m f ln ∧ m.length ≤ 10000 ∧ f.length ≤ 10000 ∧ ln.natAbs.log2 < 1920 ∧ (toString ln : Str).length ≤ 100 := by
  have GN := goodN G
  have hnl : (namesOf hs).length = hs.length := List.length_map ..
  have h6 := G.len
  have hp : (pairsTo hs hs.length).length ≤ 36 := Nat.le_trans (pairsTo_len hs _) (Nat.mul_le_mul h6 h6)
  have hps : ∀ a k, a < (namesOf hs).length → k < (namesOf hs).length → ((a, k) ∈ pairsTo hs hs.length ↔ aheadH hs a k = true) := fun a k ha hk => by
    rw [hnl] at ha hk
    rw [mem_pairs]
    exact ⟨fun h => h.2.2, fun h => ⟨ha, hk, h⟩⟩
  have hc : ∀ k < (namesOf hs).length, ((pairsTo hs hs.length).filter fun p => decide (p.2 = k)).length = cnt (namesOf hs).length (aheadH hs) [] k := fun k hk => by
    rw [hnl] at hk ⊢
    exact pairs_count hs hs.length k hk
  have I := lineTo_inv hps hc (namesOf hs).length
  have hlt : ∀ k ∈ (lineTo (namesOf hs).length (pairsTo hs hs.length) (namesOf hs).length).2.2, k < (namesOf hs).length := fun k hk => I.lt k (List.mem_append_left _ hk)
  have hll := I.len
  rw [List.length_append] at hll
  have hle := goes_le (n := (namesOf hs).length) (ps := pairsTo hs hs.length)
  rcases Nat.lt_or_eq_of_le hle with h | h
  · refine .inr ⟨_, _, _, fn_line_raise GN hp hps hc h, ?_, ?_, ?_, ?_, ?_⟩
    · unfold lineText
      rw [hnl] at h ⊢
      rw [if_neg (Nat.ne_of_lt h)]
    · refine Nat.le_trans (words_len (fun k hk => List.mem_range.mp (List.mem_filter.mp hk).1) (Nat.le_trans (List.length_filter_le _ _) ?_) GN.le) (by decide)
      rw [List.length_range, hnl]; omega
    · exact Nat.le_trans (words_len hlt (by omega) GN.le) (by decide)
    · exact log_small _ (by omega)
    · exact str36 _ (by omega)
  · refine .inl ?_
    have e := fn_line_ok (prog := prog) (w := w) (base := base) (P := P) GN hp hps hc h
    unfold lineText
    rw [hnl] at h e
    rw [if_pos h]
    exact e

/-- law answers True -/
theorem fn_law {ns : List Int} (h63 : ns.length ≤ 63) : Fn prog w (hd.heap_39 P) base 16 155 [.list (ns.map PyData.int)] (.bool true) := by
  refine fnT_intro (fnAt_law P) rfl (by decide) fun d L hdd => ?_
  generalize hE : callEnvC (fdP P 155) L 155 = env
  have G := goodH_hosts ns
  generalize hH : hostsOf ns = hs at G
  have k1 : env.kindOf "told" = some .local := by rw [← hE]; rfl
  have k2 : env.kindOf "error" = some .local := by rw [← hE]; rfl
  have k3 : Storable env "pairs" := by rw [← hE]; exact .inl rfl
  have g1 : env.kindOf "_law_line" = some .globalImplicit := by rw [← hE]; rfl
  have g2 : env.kindOf "NetrcParseError" = some .globalImplicit := by rw [← hE]; rfl
  have g3 : env.kindOf "_safe_string" = some .globalImplicit := by rw [← hE]; rfl
  have g4 : env.kindOf "_law_due" = some .globalImplicit := by rw [← hE]; rfl
  have hf : env.frame = some env.locals := by rw [← hE]; rfl
  have GN := goodN G
  have hnl : (namesOf hs).length = hs.length := List.length_map ..
  have h6 := G.len
  rw [← List.take_append_drop 3 (bodyOf (fdP P 155))]
  refine ext_app (law_pre hE (by omega) h63 hH G) ?_
  refine ext_cons (law_rungs hE (by omega) G).t ?_
  refine ext_cons (ex_new (x := "pairs") (ds := pairsN []) k3 (ev_list evs_nilS (by show 0 ≤ 1000; decide)) (fun _ m => (nomatch m))).t ?_
  refine ext_cons (law_pairs hE G).t ?_
  refine ext_freeze (x := "pairs") (ds := pairsN (pairsTo hs hs.length)) rfl ?_
  refine ext_cons (ex1t_told (T := lineText (namesOf hs) hs.length (pairsTo hs hs.length)) k1 k2 g1 g2 g3 hf rfl rfl rfl (by omega) (line_ends G) (by rfl) (by rfl)) ?_
  have et := told_due hs (namesOf hs)
  have hlt : ∀ k ∈ lostTo hs.length (aheadH hs) hs.length, k < (namesOf hs).length := fun k hk => by rw [hnl]; exact lostTo_lt hs.length _ _ k hk
  have hgt : ∀ k ∈ goneTo hs.length (aheadH hs) (lostTo hs.length (aheadH hs) hs.length) hs.length, k < (namesOf hs).length := fun k hk => by rw [hnl]; exact goneTo_lt hs.length _ _ _ k hk
  have hgl : (goneTo hs.length (aheadH hs) (lostTo hs.length (aheadH hs) hs.length) hs.length).length ≤ 36 := Nat.le_trans (goneTo_len hs.length _ _ _) (Nat.mul_le_mul h6 h6)
  have hok : PyData.strOk (dueText (namesOf hs) (lostTo hs.length (aheadH hs) hs.length) (goneTo hs.length (aheadH hs) (lostTo hs.length (aheadH hs) hs.length) hs.length)) = true := by
    unfold dueText
    split
    · exact strOk_words GN hgt
    · exact strOk_app (strOk_app (strOk_app (strOk_app (strOk_app (strOk_words GN hlt) (by decide +kernel)) (strOk_words GN hgt)) (by decide +kernel)) (strOk_num _ hgl)) (by decide +kernel)
  have fd := fn_due (prog := prog) (w := w) (base := base) (P := P) G
  rw [et]
  generalize dueText (namesOf hs) (lostTo hs.length (aheadH hs) hs.length) (goneTo hs.length (aheadH hs) (lostTo hs.length (aheadH hs) hs.length) hs.length) = D at *
  refine Ex.t (ex_stop (ex_return ?_))
  have eT : PyData.eqv (.str D) (.str D) = true := by rw [eqv_str]; exact decide_eq_true rfl
  have key : ∀ {b : Bool} {e : Expr} {ρ : List (Str × Bnd)}, b = true → Ev prog w (hd.heap_39 P) base (d + 1) env ρ e (IsS (.bool b)) → Ev prog w (hd.heap_39 P) base (d + 1) env ρ e (IsS (.bool true)) := fun h q => h ▸ q
  exact key eT (ev_cmp (ev_fz rfl).s_w (Fn.ev fd (by omega) (fnAt_due P) rfl g4 (evs_cons (ev_fz rfl) (evs_cons (ev_fz rfl) evs_nilS))).s_w (cmp_eq (ok_str hok) (ok_str hok)) (good_W _))
end
end Mine
end

section
open PySem PySem.W PyProof.Rows PySem.Calls
namespace Mine
theorem repInts {Z : List Addr} {h : Heap} : ∀ {vs : List Value} {ns : List Int}, IntsAre vs ns → RepAll Z h vs (ns.map PyData.int)
  | _, _, .nil => .nil
  | _, _, .cons n t r => .cons (.int _ _) (repInts r)

theorem go {prog : Program} {w : World} {s₁ : Shared} {mg mb : Str → Option Value} {c : ClaimW} {cl : Str → Option Addr} {mean : ExcName → Option Value} {fa a : Addr} {vs : List Value} {ns : List Int} {args : List WData}
    (KX : (hd.heap_39 w.params).In s₁.heap) (Tg : s₁.heap.Ns mainGlobals mg) (Tb : s₁.heap.Ns builtinsNs mb) (Tn : s₁.heap.NoLimit) (Tbb : ∀ x : Str, x ≠ "__name__" → mb x = bootBuiltins x) (hmg : mg "law" = some (.ref fa)) (hg : s₁.gens = #[])
    (hL : PlainL s₁.heap a vs.toArray) (hI : IntsAre vs ns) (h63 : ns.length ≤ 63) (hr : ∀ k, c.raises args k = false) (hp : c.post args (.bool true) args = true) :
    wpAny (model prog w) callerA (call (.ref fa) [.ref a]) (fun v s' => GoodWG c cl mean args s₁ (.ok (.ret v)) s') (fun e s' => GoodWG c cl mean args s₁ (.error e) s') s₁ := by
  have hfa : mg "law" = some (.ref 155) := ns_some_of KX Tg (by kernel_rfl)
  obtain rfl : fa = 155 := by rw [hmg] at hfa; exact Value.ref.inj (Option.some.inj hfa)
  have B : Base (hd.heap_39 w.params) s₁.heap := ⟨KX, ⟨mb, Tb, Tbb⟩, Tn⟩
  have W : Wd (hd.heap_39 w.params) s₁.heap 301 callerA s₁.heap := ⟨B, fun b o e => e, rfl, by decide, by decide, by decide, [], rfl, trivial, fun _ m => nomatch m⟩
  refine wpAny_mono (fn_law (prog := prog) (w := w) (base := s₁.heap) (P := w.params) h63 301 callerA [] s₁ _ [.ref a] (by decide) W (fun _ m => nomatch m) (.cons (.list (fun m => nomatch m) hL (repInts hI)) .nil)) (fun v s' q => ?_) fun _ _ x => x
  obtain ⟨r, h', tk, rfl, k⟩ := q
  obtain rfl := rep_bool r
  have kk : ∀ b o, s₁.heap.get? b = some o → h'.get? b = some o := fun b o e => by
    rcases k b o (fun m => nomatch m) e with q | ⟨_, q, _⟩
    · exact q
    · rw [e] at q; cases q
  exact ⟨.inl ⟨_, _, [], rfl, hr, ReadsW.bool true, hp, fun _ => ⟨List.nodup_nil, fun _ hm => (nomatch hm)⟩⟩, .of_keep kk, rfl, .of_eq hg⟩
theorem plain_well {P : Params} {h : Heap} {a : Addr} {vs : List Value} {ns : List Int} (w1 : Well P h (.ref a) (ofPy (.list (ns.map PyData.int)))) (hL : h.IsList a vs.toArray) : PlainL h a vs.toArray := by
  obtain ⟨o, ho, hc, n, hd⟩ := hL
  rw [ofPy] at w1
  cases w1 with
  | list e _ =>
    rw [ho] at e
    cases e
    exact ⟨_, _, ho, rfl, rfl, hd⟩
end Mine
end

section
open PySem PySem.W PyProof.Rows PySem.Calls
theorem PySem.Challenge.cw_xe0008_01_holds : PySem.Challenge.rw_xe0008_01.Holds := by
  refine Mine.hd ?_
  k_fill
  intro w s₀ s₁ mg mb G Y fa o pm cd doc dV kV ho hd' hcd hD hmg hg args vals as hpre hlay hrd hwl hlo
  have KX := kIn_of Y
  clear hD hd' hcd
  refine Ground.open G ?_
  intro T B D TE TW
  wrow_args hpre hlay hrd hwl hlo
  all_goals rename IntsAre _ _ => hI
  all_goals rename Heap.IsList _ _ _ => hL
  all_goals rename Well _ _ _ _ => w1
  all_goals refine Mine.go (prog := PySem.Challenge.rw_xe0008_01.row.prog) KX T.g T.b T.nolimit T.builtins hmg hg (Mine.plain_well w1 hL) hI (by omega) (fun _ => rfl) ?_
  all_goals first | rfl | wrow_post
end
