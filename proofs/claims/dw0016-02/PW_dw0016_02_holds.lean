import PyProof.Rows.All
import Wide.All
import OpenK.AllK
import Wide.FinOn
import Lean
import PySem.Challenge.RW_dw0016_02
set_option Elab.async false
set_option maxRecDepth 100000
set_option linter.unusedVariables false
set_option compiler.extract_closed false
section -- Top2
open PySem PySem.W PyProof.Rows
set_option maxHeartbeats 8000000
open_top hd2 for PySem.Challenge.rw_dw0016_02
end -- Top2
section -- S1
open PySem PySem.W PyProof.Rows PySem.Calls PySem.Spec
namespace Mine
/-! an exception on its way, with what its fields 0 and 2 hold (its arguments; no context) -/
noncomputable def Sees (t : Addr) (vs : Array Value) : Prop := vs[0]? = some (.ref t) ∧ vs[2]? = some .none
theorem Sees.put {t : Addr} {vs : Array Value} (h : Sees t vs) (b : Value) : Sees t (vs.setIfInBounds 1 b) := by
  refine ⟨?_, ?_⟩
  · rw [Array.getElem?_setIfInBounds_ne (by decide)]; exact h.1
  · rw [Array.getElem?_setIfInBounds_ne (by decide)]; exact h.2
noncomputable def Traced (h base : Heap) (e : Addr) (cls : Value) (t : Addr) (fl : Value) : Prop :=
  ∃ oe vs T oT ts, h.get? e = some oe ∧ oe.cls = cls ∧ Sees t vs ∧ oe.data = .fields vs ∧ vs[1]? = some (.ref T) ∧ base.get? T = none ∧ T ≠ e ∧ h.get? T = some oT ∧ oT.data = .fields ts ∧ ts[3]? = some fl
noncomputable def Flies (base : Heap) (l : List Env) (e : Addr) (cls : Value) (t : Addr) (fl : Value) (h : Heap) : Prop :=
  base.StaysIn h ∧ base.get? e = none ∧ h.FunFrames base l ∧ Traced h base e cls t fl
section
variable {M : Model} {A : Around} {E : Value → Shared → Prop} {s : Shared} {base : Heap} {env : Env} {outer l : List Env} {L e t : Addr} {cls : Value} {Q : Unit → Shared → Prop}
theorem not_rec {h : Heap} {b a : Addr} {o oa : Obj} {ws : Array Value} (hb : h.get? b = some o) (hn : ∀ vs, o.data ≠ .fields vs) (ha : h.get? a = some oa) (hd : oa.data = .fields ws) : b ≠ a := fun q => by
  rw [q, ha] at hb; cases hb; exact hn ws hd
theorem fly_entry {oe : Obj} {vs : Array Value} {head : Value} {had : Bool} (hfr : A.frames = some (env :: outer)) (hl : s.heap.FunFrames base (env :: outer)) (hf : env.frame = some L) (he : s.heap.get? e = some oe) (hkb : base.StaysIn s.heap) (hen : base.get? e = none) (hd : oe.data = .fields vs) (hsz : 1 < vs.size) (hc : oe.cls = cls) (hG : Sees t vs)
    (h : ∀ h', Flies base (env :: outer) e cls t (rawInt L) h' → s.heap.UpToSlots h' → Q () { s with heap := h' }) :
    wpAny M A (do let a ← frameOf env; let pl ← entryPlaceOf L had; let b ← EntryCells.newEntry head a .none (rawInt L) .none pl; setField (.ref e) 1 b) Q E s := by
  have hene : e ∉ (env :: outer).filterMap (·.frame) := fun hm => by
    obtain ⟨_, o, ho, hnf⟩ := hl.mem hm
    rw [he] at ho; cases ho; exact hnf vs hd
  refine wpAny_bind (wpAny_frameOf_fun hfr hl hf fun h₁ hs₁ => wpAny_bind (wpAny_entryPlaceOf fun pl hpl => ?_))
  unfold EntryCells.newEntry newFields
  refine wpAny_bind (wpAny_newObj_type ?_ (hpl.sizeOk5 _ _ _ _ _))
  have he₁ : h₁.get? e = some oe := (hs₁.2.1 e hene).trans he
  have kb₁ : base.StaysIn h₁ := fun b o hbo => (hs₁.2.1 b fun hm => by rw [(hl.mem hm).1] at hbo; cases hbo).trans (hkb b o hbo)
  generalize htb : ({ cls := .type "traceback", dict := none, data := .fields ([head, .ref L, .none, rawInt L, .none] ++ (if pl.isEmpty then List.replicate 6 Value.none else pl)).toArray } : Obj) = tb
  have hfd : tb.data = .fields ([head, .ref L, .none, rawInt L, .none] ++ (if pl.isEmpty then List.replicate 6 Value.none else pl)).toArray := by rw [← htb]
  have hnf : tb.isFreed = false := by rw [← htb]; rfl
  have he₂ := Heap.get?_push_of_some (h := h₁) tb he₁
  show wpAny M A (setField (.ref e) 1 (.ref h₁.objs.size)) Q E { s with heap := h₁.push tb }
  refine wpAny_setField he₂ hd hsz (h _ ?_ ?_)
  · have hTe : h₁.objs.size ≠ e := Nat.ne_of_gt (Heap.lt_size he₁)
    have hd₃ := Obj.data_mapFields hd (·.setIfInBounds 1 (Value.ref h₁.objs.size))
    have he₃ := Heap.get?_update_self (Obj.mapFields (·.setIfInBounds 1 (Value.ref h₁.objs.size))) he₂ (Obj.isFreed_of_fields hd₃)
    have hT₃ := (Heap.get?_update_other (h₁.push tb) (Obj.mapFields (·.setIfInBounds 1 (Value.ref h₁.objs.size))) (Ne.symm hTe)).trans (Heap.get?_push_size h₁ hnf)
    refine ⟨fun b o hbo => ?_, hen, hl.of_keeps fun b o hb hn => ?_, _, _, h₁.objs.size, tb, _, he₃, (Obj.cls_mapFields _ _).trans hc, hG.put _, hd₃, by simp [hsz], kb₁.fresh, hTe, hT₃, hfd, ?_⟩
    · exact (Heap.get?_update_other _ _ (fun q : e = b => by rw [← q, hen] at hbo; cases hbo)).trans (Heap.get?_push_of_some _ (kb₁ b o hbo))
    · obtain ⟨sl, hs⟩ := hs₁.2.2 b o hb
      exact ⟨_, (Heap.get?_update_other _ _ (Ne.symm (not_rec hb hn he hd))).trans (Heap.get?_push_of_some _ hs), rfl⟩
    · first | (simp; done) | (rcases hpl with rfl | ⟨_, _, _, _, _, _, _, rfl⟩ <;> simp)
  · intro b o hb hn
    obtain ⟨sl, hs⟩ := hs₁.2.2 b o hb
    exact ⟨sl, (Heap.get?_update_other _ _ (Ne.symm (not_rec hb hn he hd))).trans (Heap.get?_push_of_some _ hs)⟩
theorem fly_first {oe : Obj} {vs : Array Value} (hfr : A.frames = some (env :: outer)) (hl : s.heap.FunFrames base (env :: outer)) (hf : env.frame = some L) (he : s.heap.get? e = some oe) (hkb : base.StaysIn s.heap) (hen : base.get? e = none) (hd : oe.data = .fields vs) (h1 : vs[1]? = some .none) (hc : oe.cls = cls) (hG : Sees t vs)
    (h : ∀ h', Flies base (env :: outer) e cls t (rawInt L) h' → s.heap.UpToSlots h' → Q () { s with heap := h' }) : wpAny M A (noteFrame (.ref e) env) Q E s := by
  unfold noteFrame
  simp only [hf]
  refine wpAny_bind (wpAny_field he hd h1 ?_)
  rw [if_neg (by decide)]
  exact fly_entry hfr hl hf he hkb hen hd (Array.getElem?_eq_some_iff.mp h1).1 hc hG h
theorem fly_next (hfr : A.frames = some (env :: outer)) (hf : env.frame = some L) (x : Flies base (env :: outer) e cls t .none s.heap)
    (h : ∀ h', Flies base (env :: outer) e cls t (rawInt L) h' → s.heap.UpToSlots h' → Q () { s with heap := h' }) : wpAny M A (noteFrame (.ref e) env) Q E s := by
  obtain ⟨hkb, hen, hl, oe, vs, T, oT, ts, he, hc, hG, hd, h1, hnT, hTe, hT, hdT, h3⟩ := x
  unfold noteFrame
  simp only [hf]
  refine wpAny_bind (wpAny_field he hd h1 ?_)
  rw [if_pos (show (Value.ref T != Value.none) = true from by simp)]
  refine wpAny_bind (wpAny_field hT hdT h3 ?_)
  rw [if_neg (show ¬ ((Value.none == rawInt L) = true) from by simp [rawInt])]
  refine wpAny_bind (wpAny_setField hT hdT (Array.getElem?_eq_some_iff.mp h3).1 ?_)
  have other : ∀ b, b ≠ T → (s.heap.update T (Obj.mapFields (·.setIfInBounds 3 Value.none))).get? b = s.heap.get? b := fun b hb => Heap.get?_update_other _ _ (Ne.symm hb)
  refine fly_entry hfr (hl.of_keeps fun b o hb hn => ⟨o, (other b (not_rec hb hn hT hdT)).trans hb, rfl⟩) hf ((other e (Ne.symm hTe)).trans he)
    (fun b o hbo => (other b fun q => by rw [q, hnT] at hbo; cases hbo).trans (hkb b o hbo)) hen hd (Array.getElem?_eq_some_iff.mp h1).1 hc hG fun h' x1 x2 => h h' x1 fun b o hb hn => x2 b o ((other b (not_rec hb hn hT hdT)).trans hb) hn
theorem fly_lands {fl : Value} (x : Flies base l e cls t fl s.heap) (h : ∀ h', Flies base l e cls t .none h' → s.heap.UpToSlots h' → Q () { s with heap := h' }) : wpAny M A (setFlight (.ref e) none) Q E s := by
  obtain ⟨hkb, hen, hl, oe, vs, T, oT, ts, he, hc, hG, hd, h1, hnT, hTe, hT, hdT, h3⟩ := x
  have hsz3 : 3 < ts.size := (Array.getElem?_eq_some_iff.mp h3).1
  have other : ∀ b, b ≠ T → (s.heap.update T (Obj.mapFields (·.setIfInBounds 3 ((none : Option Addr).elim Value.none fun f => rawInt f)))).get? b = s.heap.get? b := fun b hb => Heap.get?_update_other _ _ (Ne.symm hb)
  unfold setFlight
  refine wpAny_bind (wpAny_field he hd h1 ?_)
  rw [if_pos (show (Value.ref T != Value.none) = true from by simp)]
  refine wpAny_setField hT hdT hsz3 (h _ ⟨fun b o hbo => (other b fun q => by rw [q, hnT] at hbo; cases hbo).trans (hkb b o hbo), hen, hl.of_keeps fun b o hb hn => ⟨o, (other b (not_rec hb hn hT hdT)).trans hb, rfl⟩,
    oe, vs, T, _, _, (other e (Ne.symm hTe)).trans he, hc, hG, hd, h1, hnT, hTe, Heap.get?_update_self _ hT (Obj.isFreed_of_fields (Obj.data_mapFields hdT _)), Obj.data_mapFields hdT _, by simp [hsz3]⟩ fun b o hb hn => ⟨o.slots, (other b (not_rec hb hn hT hdT)).trans hb⟩)
theorem fly_leaves (hfr : A.frames = some (env :: outer)) (hf : env.frame = some L) (x : Flies base (env :: outer) e cls t .none s.heap)
    (h : ∀ h', Flies base outer e cls t .none h' → s.heap.UpToSlots h' → Q () { s with heap := h' }) : wpAny M A (leaving env (.ref e)) Q E s := by
  unfold leaving
  refine wpAny_bind (fly_next hfr hf x fun h₁ x₁ u₁ => fly_lands x₁ fun h₂ x₂ u₂ => h h₂ ?_ (u₁.trans u₂))
  obtain ⟨k1, k2, ⟨_, _, k3⟩, k4⟩ := x₂
  exact ⟨k1, k2, k3, k4⟩
theorem fly_made {h : Heap} {args : List Value} (hfr : A.frames = some (env :: outer)) (hf : env.frame = some L) (hkb : base.StaysIn h) (hl : h.FunFrames base (env :: outer)) (hx : Heap.MadeExcOf h s.heap e cls args)
    (hQ : ∀ h' t, Flies base outer e cls t .none h' → h'.TupAt t args → base.get? t = none → s.heap.UpToSlots h' → Q () { s with heap := h' }) : wpAny M A (leaving env (.ref e)) Q E s := by
  obtain ⟨t, he, htn, ht⟩ := hx.there
  have fresh : ∀ b, h.get? b = none → base.get? b = none := fun b hb => by
    cases hq : base.get? b with
    | none => rfl
    | some o' => have := hkb b o' hq; rw [hb] at this; cases this
  unfold leaving
  refine wpAny_bind (fly_first (t := t) hfr (hl.of_keeps fun b o hb _ => ⟨o, hx.keeps b o hb, rfl⟩) hf he (fun b o hb => hx.keeps b o (hkb b o hb)) (fresh e hx.new) rfl rfl rfl ⟨rfl, rfl⟩ fun h₁ x₁ u₁ => fly_lands x₁ fun h₂ x₂ u₂ => ?_)
  obtain ⟨k1, k2, ⟨_, _, k3⟩, k4⟩ := x₂
  exact hQ h₂ t ⟨k1, k2, k3, k4⟩ (Heap.TupAt.of_slots (Heap.TupAt.of_slots ⟨_, _, ht, rfl, rfl⟩ u₁) u₂) (fresh t htn) (u₁.trans u₂)
theorem Flies.there {fl : Value} {h : Heap} (x : Flies base l e cls t fl h) : ∃ oe vs, h.get? e = some oe ∧ oe.cls = cls ∧ oe.data = .fields vs ∧ Sees t vs :=
  let ⟨_, _, _, oe, vs, _, _, _, he, hc, hG, hd, _⟩ := x; ⟨oe, vs, he, hc, hd, hG⟩
theorem Flies.lower {base' : Heap} {fl : Value} {h : Heap} (k : base'.StaysIn base) (x : Flies base l e cls t fl h) : Flies base' l e cls t fl h := by
  obtain ⟨f1, f2, f3, oe, vs, T, oT, ts, a1, a2, a3, a4, a5, a6, a7⟩ := x
  exact ⟨fun b o q => f1 b o (k b o q), fresh_of_stays k f2, funFrames_base k f3, oe, vs, T, oT, ts, a1, a2, a3, a4, a5, fresh_of_stays k a6, a7⟩
end
end Mine
end -- S1
section -- B1
open PySem PySem.W PyProof.Rows PySem.Calls PySem.Spec
namespace Mine
/-- all but S is kept -/
noncomputable def KeepBut (S : List Addr) (h h' : Heap) : Prop := ∀ b o, b ∉ S → h.get? b = some o → h'.get? b = some o
theorem KeepBut.trans {S : List Addr} {h h' h'' : Heap} (a : KeepBut S h h') (b : KeepBut S h' h'') : KeepBut S h h'' := fun x o n e => b x o n (a x o n e)
theorem KeepBut.of_stays {S : List Addr} {h h' : Heap} (a : h.StaysIn h') : KeepBut S h h' := fun x o _ e => a x o e
theorem KeepBut.of_hide {S : List Addr} {h h' : Heap} (a : (hideAll h S).StaysIn h') : KeepBut S h h' := fun x o n e => a x o (hideAll_get S e n)
theorem KeepBut.hide {S : List Addr} {h h' : Heap} (a : KeepBut S h h') : (hideAll h S).StaysIn h' := fun x o e =>
  a x o (fun m => by rw [hideAll_none S m] at e; cases e) (of_hideAll S e)
theorem hide_some {S : List Addr} {h : Heap} {b : Addr} {o : Obj} (e : (hideAll h S).get? b = some o) : h.get? b = some o ∧ b ∉ S :=
  ⟨of_hideAll S e, fun m => by rw [hideAll_none S m] at e; cases e⟩
noncomputable abbrev frs (l : List Env) : List Addr := l.filterMap (·.frame)
/-- an exception of the class KeyError with the one argument x flies over the frames fr; of the heap h all but S and the frames stands in B, and B in h' -/
noncomputable def Up (S : List Addr) (Er : Heap → Prop) (fr : List Env) (e : Addr) (x : Str) (h h' : Heap) : Prop :=
  ∃ B t xt, (hideAll h (S ++ frs fr)).StaysIn B ∧ Er B ∧ Flies B fr e (.type "KeyError") t .none h' ∧ B.get? t = none ∧ h'.TupAt t [.str x xt] ∧ (hideAll h S).UpToSlots h'
noncomputable def Calls (prog : Program) (w : World) (base : Heap) (S : List Addr) (dn un : Nat) (Pre : Heap → Prop) (f : Value) (pos : List Value) (kw : List (Str × Value)) (Ok : Value → Heap → Prop) (Er : Str → Heap → Prop) : Prop :=
  ∀ (A : Around) (fr : List Env) (s : Shared) (Q E : Value → Shared → Prop), A.frames = some fr → base.StaysIn s.heap → s.heap.FunFrames base fr → (∀ b ∈ S, b ∉ frs fr) → Pre s.heap → A.handled = none →
    A.depth + dn < recursionLimit → A.units + un < cLine →
    (∀ v h' tk', KeepBut S s.heap h' → Ok v h' → Q v { s with heap := h', toks := tk' }) →
    (∀ x e h' tk', Up S (Er x) fr e x s.heap h' → E (.ref e) { s with heap := h', toks := tk' }) →
    wpAny (model prog w) A (call f pos kw) Q E s
/-- what a body hands back -/
noncomputable def Out (s : Shared) (g : Heap) (Ok : Value → Heap → Prop) (v : Value) (s' : Shared) : Prop :=
  ∃ h' tk', s' = { s with heap := h', toks := tk' } ∧ g.StaysIn h' ∧ Ok v h'
theorem Out.mk {s : Shared} {g : Heap} {Ok : Value → Heap → Prop} {v : Value} {h' : Heap} {tk' : Nat} (k : g.StaysIn h') (o : Ok v h') : Out s g Ok v { s with heap := h', toks := tk' } := ⟨h', tk', rfl, k, o⟩
/-- what a body raises -/
noncomputable def OutE (s : Shared) (S : List Addr) (Er : Str → Heap → Prop) (fr : List Env) (h : Heap) (e : Value) (s' : Shared) : Prop :=
  ∃ x a h' tk', e = .ref a ∧ s' = { s with heap := h', toks := tk' } ∧ Up S (Er x) fr a x h h'
theorem funFrames_hideS {base h : Heap} {S : List Addr} {l : List Env} (H : h.FunFrames base l) (n : ∀ b ∈ S, b ∉ frs l) : (hideAll h S).FunFrames base l :=
  funFrames_hideAll H fun env he a ha hf => n a ha (List.mem_filterMap.mpr ⟨env, he, hf⟩)
theorem stays_hide {base h : Heap} {S : List Addr} (st : base.StaysIn h) (n : ∀ b ∈ S, base.get? b = none) : base.StaysIn (hideAll h S) := fun b o e =>
  hideAll_get S (st b o e) fun m => by rw [n b m] at e; cases e
theorem up_leave {S : List Addr} {Er : Heap → Prop} {fr : List Env} {e : Addr} {x : Str} {h h₂ h' : Heap} {M : Model} {A : Around} {env : Env} {L : Addr} {s' : Shared} {Q : Unit → Shared → Prop} {E : Value → Shared → Prop}
    (hA : A.frames = some fr) (hf : env.frame = some L) (hL : h.objs.size ≤ L) (k : KeepBut S h h₂) (e1 : s'.heap = h') (U : Up S Er (env :: fr) e x h₂ h')
    (hQ : ∀ h'', Up S Er fr e x h h'' → Q () { s' with heap := h'' }) : wpAny M (A.deeper env) (leaving env (.ref e)) Q E s' := by
  subst e1
  obtain ⟨B, t, xt, b1, b2, b3, b4, b5, b6⟩ := U
  refine fly_leaves (Around.frames_deeper hA) hf b3 fun h'' f1 f2 => hQ h'' ⟨B, t, xt, fun b o q => b1 b o ?_, b2, f1, b4, b5.of_slots f2, ((Heap.UpToSlots.of_keeps fun b o q => hideAll_get _ (k b o (hide_some q).2 (hide_some q).1) (hide_some q).2).trans b6).trans f2⟩
  obtain ⟨q1, q2⟩ := hide_some q
  refine hideAll_get _ (k b o (fun m => q2 (List.mem_append_left _ m)) q1) fun m => ?_
  rcases List.mem_append.mp m with m | m
  · exact q2 (List.mem_append_left _ m)
  · rw [frs, List.filterMap_cons, hf] at m
    rcases List.mem_cons.mp m with rfl | m
    · exact absurd (Heap.lt_size q1) (Nat.not_lt.mpr hL)
    · exact q2 (List.mem_append_right _ m)
theorem Up.more {S S' : List Addr} {Er Er' : Heap → Prop} {fr : List Env} {e : Addr} {x : Str} {h h' : Heap} (U : Up S Er fr e x h h') (hS : ∀ b ∈ S, b ∈ S') (hE : ∀ B, Er B → Er' B) : Up S' Er' fr e x h h' := by
  obtain ⟨B, t, xt, b1, b2, b3, b4, b5, b6⟩ := U
  refine ⟨B, t, xt, fun b o q => b1 b o ?_, hE B b2, b3, b4, b5, (Heap.UpToSlots.of_keeps fun b o q => hideAll_get _ (hide_some q).1 fun m => (hide_some q).2 (hS b m)).trans b6⟩
  obtain ⟨q1, q2⟩ := hide_some q
  exact hideAll_get _ q1 fun m => q2 ((List.mem_append.mp m).elim (fun z => List.mem_append_left _ (hS b z)) fun z => List.mem_append_right _ z)
/-- a call by its contract, in a frame -/
theorem use_calls {prog : Program} {w : World} {base h₀ : Heap} {S : List Addr} {dn un : Nat} {Pre : Heap → Prop} {f : Value} {pos : List Value} {kw : List (Str × Value)} {Ok : Value → Heap → Prop} {Er : Str → Heap → Prop} {A : Around} {fr : List Env} {s : Shared} {Q E : Value → Shared → Prop} {env : Env} {L : Addr} {m : Str → Option Value}
    (H : Calls prog w base S dn un Pre f pos kw Ok Er) (B : Below A base fr h₀) (F : Fr h₀ L s.heap m) (hf : env.frame = some L) (hke : env.scope.kind = .function) (hS : ∀ b ∈ S, b ∉ frs (env :: fr)) (hpre : Pre s.heap) (hh : A.handled = none)
    (hd : A.depth + 1 + dn < recursionLimit) (hu : A.units + 3 + un < cLine)
    (ok : ∀ v h' tk', KeepBut S s.heap h' → Ok v h' → Q v { s with heap := h', toks := tk' })
    (er : ∀ x e h' tk', Up S (Er x) (env :: fr) e x s.heap h' → E (.ref e) { s with heap := h', toks := tk' }) :
    wpAny (model prog w) (A.deeper env) (call f pos kw) Q E s :=
  have B' := pushX B F hf hke
  H _ _ _ _ _ B'.stack B'.stays B'.frames hS hpre hh hd hu ok er
/-- a KeyError made in this very frame leaves it -/
theorem made_leave {S : List Addr} {Er : Heap → Prop} {base : Heap} {fr : List Env} {e : Addr} {x : Str} {xt : Tok} {h h₂ : Heap} {M : Model} {A : Around} {env : Env} {L : Addr} {s' : Shared} {Q : Unit → Shared → Prop} {E : Value → Shared → Prop}
    (hA : A.frames = some fr) (hf : env.frame = some L) (hL : h.objs.size ≤ L) (k : KeepBut S h h₂) (ff : h₂.FunFrames base (env :: fr)) (hx : Heap.MadeExcOf h₂ s'.heap e (.type "KeyError") [.str x xt])
    (hE : Er (hideAll h₂ (frs (env :: fr)))) (hQ : ∀ h'', Up S Er fr e x h h'' → Q () { s' with heap := h'' }) : wpAny M (A.deeper env) (leaving env (.ref e)) Q E s' := by
  refine fly_made (base := hideAll h₂ (frs (env :: fr))) (Around.frames_deeper hA) hf (fun b o q => of_hideAll _ q) (funFrames_hide ff fun env' he a ha => List.mem_filterMap.mpr ⟨env', he, ha⟩) hx
    fun h' t x1 x2 x3 x4 => hQ h' ⟨_, t, xt, fun b o q => ?_, hE, x1, x3, x2, (Heap.UpToSlots.of_keeps fun b o q => hx.keeps b o (k b o (hide_some q).2 (hide_some q).1)).trans x4⟩
  obtain ⟨q1, q2⟩ := hide_some q
  refine hideAll_get _ (k b o (fun m => q2 (List.mem_append_left _ m)) q1) fun m => ?_
  rw [frs, List.filterMap_cons, hf] at m
  rcases List.mem_cons.mp m with rfl | m
  · exact absurd (Heap.lt_size q1) (Nat.not_lt.mpr hL)
  · exact q2 (List.mem_append_right _ m)
section
variable {prog : Program} {w : World} {base : Heap} {S : List Addr}
/-- a def of the text: what its body does is what the call does -/
theorem calls_def {dn un : Nat} {Pre : Heap → Prop} {f : Addr} {pos : List Value} {kw : List (Str × Value)} {Ok : Value → Heap → Prop} {Er : Str → Heap → Prop}
    {name qual : Str} {params : Arguments} {body : List Stmt} {scope : Scope} {cl : List (Str × Addr)} {dV kV doc pm cdv ct : Value} {an : Option Addr} {fo : Obj} {binds : List (Str × Value)}
    (hS : ∀ b ∈ S, base.get? b = none) (hlim : base.NoLimit) (ho : ∀ h, Pre h → base.StaysIn h → h.get? f = some fo) (hd : fo.data = .func (fnX name qual params body scope cl dV kV doc pm an cdv ct)) (hcd : ∀ h, Pre h → base.StaysIn h → h.CodeRec cdv qual) (hdn : 0 < dn)
    (hbind : ∀ s : Shared, Pre s.heap → base.StaysIn s.heap → BindsTo s (fnX name qual params body scope cl dV kV doc pm an cdv ct) ⟨pos, kw⟩ binds) (hloc : ∀ y ∈ binds, scope.names.lookup y.1 = some .local)
    (h : ∀ (A : Around) (fr : List Env) (s : Shared) (L : Addr) (h₁ : Heap), A.frames = some fr → Pre s.heap → A.handled = none → A.depth + dn < recursionLimit → A.units + un < cLine → s.heap.FunFrames base fr → (∀ b ∈ S, b ∉ frs fr) →
      base.StaysIn (hideAll s.heap S) → Below A base fr (hideAll s.heap S) → Fr (hideAll s.heap S) L h₁ (fun y => binds.reverse.lookup y) → s.heap.StaysIn h₁ → L = s.heap.objs.size →
      wpAny (model prog w) (A.deeper (envX qual scope L f cdv cl)) (execs body (envX qual scope L f cdv cl))
        (fun fl s' => Out s (hideAll s.heap S) Ok (match fl with | .ret v => v | _ => .none) s')
        (fun e s' => wpAny (model prog w) (A.deeper (envX qual scope L f cdv cl)) (leaving (envX qual scope L f cdv cl) e) (fun _ s'' => OutE s S Er fr s.heap e s'') (fun e' s'' => OutE s S Er fr s.heap e' s'') s')
        { s with heap := h₁, toks := s.toks + binds.length })
    (hcell : ∀ x ∈ scope.names, x.2 ≠ .cell) (hco : scope.isCoroutine = false) (hgen : scope.isGenerator = false) (hk : scope.kind = .function) :
    Calls prog w base S dn un Pre (.ref f) pos kw Ok Er := by
  intro A fr s Q E hA st ff hSf hpre hh hroom hu hQ hE
  refine wpAny_call (codeAny_call_def (fd := fnX name qual params body scope cl dV kV doc pm an cdv ct) (body := body) (binds := binds) (by omega) (ho _ hpre st) hd (hlim.keeps st) (hcd _ hpre st) rfl (hbind s hpre st) hcell hloc (fun h₁ hns hk₁ => ?_) hco hgen hk)
  have sth := stays_hide st hS
  refine wpAny_mono (h A fr s s.heap.objs.size h₁ hA hpre hh hroom hu ff hSf sth ⟨hA, sth, funFrames_hideS ff hSf⟩ ⟨hns, fun b o e => hk₁ b o (of_hideAll _ e), Nat.le_of_eq (hideAll_size _ _)⟩ hk₁ rfl) (fun fl s' hl => ?_) fun e s' hl => ?_
  · obtain ⟨h', tk', rfl, k, o⟩ := hl
    exact hQ _ _ _ (KeepBut.of_hide k) o
  · refine wpAny_mono hl (fun _ s'' o => ?_) fun e' s'' o => ?_
    · obtain ⟨x, a, h', tk', rfl, rfl, U⟩ := o
      exact hE _ _ _ _ U
    · obtain ⟨x, a, h', tk', rfl, rfl, U⟩ := o
      exact hE _ _ _ _ U
/-- a def that is an expression (a lambda) -/
theorem calls_expr {dn un : Nat} {Pre : Heap → Prop} {f : Addr} {pos : List Value} {kw : List (Str × Value)} {Ok : Value → Heap → Prop} {Er : Str → Heap → Prop}
    {name qual : Str} {params : Arguments} {body : Expr} {scope : Scope} {cl : List (Str × Addr)} {dV kV doc pm cdv ct : Value} {an : Option Addr} {fo : Obj} {binds : List (Str × Value)}
    (hS : ∀ b ∈ S, base.get? b = none) (hlim : base.NoLimit) (ho : ∀ h, Pre h → base.StaysIn h → h.get? f = some fo)
    (hd : fo.data = .func { name, qualname := qual, params, body := .expr body, scope, globals := mainGlobals, closure := cl, defaults := dV, kwdefaults := kV, doc, pyModule := pm, annotations := an, code := cdv, closureTuple := ct, builtins := builtinsNs }) (hcd : ∀ h, Pre h → base.StaysIn h → h.CodeRec cdv qual) (hdn : 0 < dn)
    (hbind : bindArgs { name, qualname := qual, params, body := .expr body, scope, globals := mainGlobals, closure := cl, defaults := dV, kwdefaults := kV, doc, pyModule := pm, annotations := an, code := cdv, closureTuple := ct, builtins := builtinsNs } ⟨pos, kw⟩ = pure binds) (hloc : ∀ y ∈ binds, scope.names.lookup y.1 = some .local)
    (h : ∀ (A : Around) (fr : List Env) (s : Shared) (L : Addr) (h₁ : Heap), A.frames = some fr → Pre s.heap → A.handled = none → A.depth + dn < recursionLimit → A.units + un < cLine → s.heap.FunFrames base fr → (∀ b ∈ S, b ∉ frs fr) →
      base.StaysIn (hideAll s.heap S) → Below A base fr (hideAll s.heap S) → Fr (hideAll s.heap S) L h₁ (fun y => binds.reverse.lookup y) → s.heap.StaysIn h₁ → L = s.heap.objs.size →
      wpAny (model prog w) (A.deeper (envX qual scope L f cdv cl)) (eval body (envX qual scope L f cdv cl))
        (fun v s' => Out s (hideAll s.heap S) Ok v s')
        (fun e s' => wpAny (model prog w) (A.deeper (envX qual scope L f cdv cl)) (leaving (envX qual scope L f cdv cl) e) (fun _ s'' => OutE s S Er fr s.heap e s'') (fun e' s'' => OutE s S Er fr s.heap e' s'') s')
        { s with heap := h₁, toks := s.toks + binds.length })
    (hcell : ∀ x ∈ scope.names, x.2 ≠ .cell) (hco : scope.isCoroutine = false) (hgen : scope.isGenerator = false) (hk : scope.kind = .function) :
    Calls prog w base S dn un Pre (.ref f) pos kw Ok Er := by
  intro A fr s Q E hA st ff hSf hpre hh hroom hu hQ hE
  refine wpAny_call (kla_callFunE (by omega) (ho _ hpre st) hd hco hgen rfl (hcd _ hpre st) ?_)
  rw [hbind]
  refine wpAny_pure (wpAny_newFunctionEnv hcell hloc (fun h₁ hns hsb => ⟨(hlim.keeps st).fresh _ hsb, ?_⟩) hk)
  show codeAny _ _ (.expr body (envX qual scope s.heap.objs.size f cdv cl)) _ _
  have hk₁ : ∀ b o, s.heap.get? b = some o → h₁.get? b = some o := fun b o e => hsb.extBut b o (Nat.ne_of_lt (Heap.lt_size e)) (Heap.get?_push_of_some _ e)
  have sth := stays_hide st hS
  refine kla_codeExpr (wpAny_mono (h A fr s s.heap.objs.size h₁ hA hpre hh hroom hu ff hSf sth ⟨hA, sth, funFrames_hideS ff hSf⟩ ⟨hns, fun b o e => hk₁ b o (of_hideAll _ e), Nat.le_of_eq (hideAll_size _ _)⟩ hk₁ rfl) (fun v s' hl => ?_) fun e s' hl => ?_)
  · obtain ⟨h', tk', rfl, k, o⟩ := hl
    exact hQ _ _ _ (KeepBut.of_hide k) o
  · refine wpAny_mono hl (fun _ s'' o => ?_) fun e' s'' o => ?_
    · obtain ⟨x, a, h', tk', rfl, rfl, U⟩ := o
      exact hE _ _ _ _ U
    · obtain ⟨x, a, h', tk', rfl, rfl, U⟩ := o
      exact hE _ _ _ _ U
theorem calls_K {K : Frag} {dn un : Nat} {Pre : Heap → Prop} {f : Addr} {pos : List Value} {kw : List (Str × Value)} {Ok : Value → Heap → Prop} {Er : Str → Heap → Prop}
    {name qual : Str} {params : Arguments} {body : List Stmt} {scope : Scope} {dV kV doc pm cdv ct oc : Value} {an od : Option Addr} {osl : Array (Option Value)} {binds : List (Str × Value)}
    (hS : ∀ b ∈ S, base.get? b = none) (hlim : base.NoLimit) (X : K.In base) (hdn : 0 < dn)
    (ho : K.lookup f = some ⟨oc, od, .func (fnOf name qual params body scope dV kV doc pm an cdv ct), osl⟩) (hcd : codeIn K cdv qual = true)
    (hbind : ∀ s : Shared, K.In s.heap → BindsTo s (fnOf name qual params body scope dV kV doc pm an cdv ct) ⟨pos, kw⟩ binds) (hloc : ∀ y ∈ binds, scope.names.lookup y.1 = some .local)
    (h : ∀ (A : Around) (fr : List Env) (s : Shared) (L : Addr) (h₁ : Heap), A.frames = some fr → Pre s.heap → A.handled = none → A.depth + dn < recursionLimit → A.units + un < cLine → s.heap.FunFrames base fr → (∀ b ∈ S, b ∉ frs fr) →
      base.StaysIn (hideAll s.heap S) → Below A base fr (hideAll s.heap S) → Fr (hideAll s.heap S) L h₁ (fun y => binds.reverse.lookup y) → s.heap.StaysIn h₁ → L = s.heap.objs.size →
      wpAny (model prog w) (A.deeper (envOf qual scope L f cdv)) (execs body (envOf qual scope L f cdv))
        (fun fl s' => Out s (hideAll s.heap S) Ok (match fl with | .ret v => v | _ => .none) s')
        (fun e s' => wpAny (model prog w) (A.deeper (envOf qual scope L f cdv)) (leaving (envOf qual scope L f cdv) e) (fun _ s'' => OutE s S Er fr s.heap e s'') (fun e' s'' => OutE s S Er fr s.heap e' s'') s')
        { s with heap := h₁, toks := s.toks + binds.length })
    (hcell : ∀ x ∈ scope.names, x.2 ≠ .cell) (hco : scope.isCoroutine = false) (hgen : scope.isGenerator = false) (hk : scope.kind = .function) :
    Calls prog w base S dn un Pre (.ref f) pos kw Ok Er :=
  calls_def (cl := []) hS hlim (fun _ _ st => st _ _ (X _ _ ho)) rfl (fun _ _ st => (codeRec_of X hcd).keeps st) hdn (fun s _ st => hbind s (X.keeps st)) hloc h hcell hco hgen hk
theorem calls_KE {K : Frag} {dn un : Nat} {Pre : Heap → Prop} {f : Addr} {pos : List Value} {kw : List (Str × Value)} {Ok : Value → Heap → Prop} {Er : Str → Heap → Prop}
    {name qual : Str} {params : Arguments} {body : Expr} {scope : Scope} {dV kV doc pm cdv ct oc : Value} {an od : Option Addr} {osl : Array (Option Value)} {binds : List (Str × Value)}
    (hS : ∀ b ∈ S, base.get? b = none) (hlim : base.NoLimit) (X : K.In base) (hdn : 0 < dn)
    (ho : K.lookup f = some ⟨oc, od, .func (ktl_fn name qual params body scope dV kV doc pm an cdv ct), osl⟩) (hcd : codeIn K cdv qual = true)
    (hbind : bindArgs (ktl_fn name qual params body scope dV kV doc pm an cdv ct) ⟨pos, kw⟩ = pure binds) (hloc : ∀ y ∈ binds, scope.names.lookup y.1 = some .local)
    (h : ∀ (A : Around) (fr : List Env) (s : Shared) (L : Addr) (h₁ : Heap), A.frames = some fr → Pre s.heap → A.handled = none → A.depth + dn < recursionLimit → A.units + un < cLine → s.heap.FunFrames base fr → (∀ b ∈ S, b ∉ frs fr) →
      base.StaysIn (hideAll s.heap S) → Below A base fr (hideAll s.heap S) → Fr (hideAll s.heap S) L h₁ (fun y => binds.reverse.lookup y) → s.heap.StaysIn h₁ → L = s.heap.objs.size →
      wpAny (model prog w) (A.deeper (envOf qual scope L f cdv)) (eval body (envOf qual scope L f cdv))
        (fun v s' => Out s (hideAll s.heap S) Ok v s')
        (fun e s' => wpAny (model prog w) (A.deeper (envOf qual scope L f cdv)) (leaving (envOf qual scope L f cdv) e) (fun _ s'' => OutE s S Er fr s.heap e s'') (fun e' s'' => OutE s S Er fr s.heap e' s'') s')
        { s with heap := h₁, toks := s.toks + binds.length })
    (hcell : ∀ x ∈ scope.names, x.2 ≠ .cell) (hco : scope.isCoroutine = false) (hgen : scope.isGenerator = false) (hk : scope.kind = .function) :
    Calls prog w base S dn un Pre (.ref f) pos kw Ok Er :=
  calls_expr (cl := []) hS hlim (fun _ _ st => st _ _ (X _ _ ho)) rfl (fun _ _ st => (codeRec_of X hcd).keeps st) hdn hbind hloc h hcell hco hgen hk
end
/-- the dict has no such key: KeyError with the key -/
theorem getItem_missing {prog : Program} {w : World} {A : Around} {E : Value → Shared → Prop} {s : Shared} {d : Addr} {x : Str} {t : Tok} {f : Str → Option Value} {Q : Value → Shared → Prop} (hd : (d == sysModules) = false) (hh : A.handled = none) (hm : s.heap.MapOf (strKind prog w) d f) (hv : f x = none)
    (h : ∀ h' e, Heap.MadeExcOf s.heap h' e (.type "KeyError") [.str x t] → E (.ref e) { s with heap := h', toks := s.toks + 1 }) : wpAny (model prog w) A (getItem (.ref d) (.str x t)) Q E s := by
  unfold getItem
  try with_reducible refine wpAny_holding ?_
  refine wpAny_bind (wpAny_sequenceKey hm.typeIs (by decide) ?_)
  refine wpAny_bind (wpAny_callSpecial?_slot (name := Str.ofString "__getitem__") hm.typeIs slot_dict_getitem
    (wpAny_call_entry slot_dict_getitem hm.typeIs entry_dict_getitem ?_ (args_dict_getitem _ _)))
  show wpAny _ _ (dictGet d (.str x t) >>= _) _ _ s
  refine wpAny_bind (wpAny_dictGet_of (strKind_is prog w x t) hm ?_)
  rw [hv]
  show wpAny _ _ (Builtin.Dict.missed d (.str x t) >>= _) _ _ _
  refine wpAny_bind (wpAny_missed_other hd ?_)
  refine wpAny_bind (wpAny_typeOf (s := { s with toks := s.toks + 1 }) hm.typeIs ?_)
  show wpAny _ _ (if (Value.type "dict" != Value.type "dict") = true then _ else _) _ _ _
  rw [if_neg (by decide)]
  refine wpAny_bind (wpAny_rule (wpAny_bind ?_))
  unfold newExc newTuple
  refine wpAny_bind (wpAny_newObj_type ?_ (show ([Value.str x t]).toArray.size ≤ sizeLine from (by decide : 1 ≤ sizeLine)))
  refine wpAny_bind (m := firstArgMember _ _) (wpAny_of_eq (a := Value.none) (by simp only [firstArgMember, plainExc_KeyError.first]; rfl) ?_)
  rw [plainExc_KeyError.own]
  refine wpAny_newObj_type ?_ (by size_fits)
  unfold raiseNew
  refine wpAny_bind (wpAny_handled ?_)
  rw [show (A.in1).handled = none from hh]
  refine wpAny_bind (wpAny_pure (wpAny_throw ?_))
  refine h _ _ ⟨fun b o hb => Heap.get?_push_of_some _ (Heap.get?_push_of_some _ hb), Heap.get?_none_of_le (by simp), _, Heap.get?_push_size _ rfl, Heap.get?_none_of_le (by simp), Heap.get?_push_of_some _ (Heap.get?_push_size _ rfl)⟩
end Mine
end -- B1
section -- B2
open PySem PySem.W PyProof.Rows PySem.Calls PySem.Spec
namespace Mine
noncomputable def Stop (P : Prop) : Prop := P
theorem Stop.mk {P : Prop} (h : Stop P) : P := h
theorem stop_cons {M : Model} {A : Around} {E : Value → Shared → Prop} {s : Shared} {env : Env} {st rest} {Q : Flow → Shared → Prop}
    (h : wpAny M A (exec st env) (fun f s' => match f with | .next => Stop (wpAny M A (execs rest env) Q E s') | f => Q f s') E s) : wpAny M A (execs (st :: rest) env) Q E s :=
  wpAny_execs_cons (wpAny_mono h (fun f s' q => by cases f <;> exact q) fun _ _ e => e)
theorem allLt_mem {d : Nat} {l : List (Addr × Obj)} (h : AllLt d l) (p : Addr × Obj) (hp : p ∈ l) : p.1 < d := by
  induction l with
  | nil => cases hp
  | cons q r ih =>
    rcases List.mem_cons.mp hp with rfl | hp
    · exact h.1
    · exact ih h.2 hp
/-- a turn's end -/
noncomputable def TurnEnd (h₀ : Heap) (L : Addr) (s : Shared) (Q : Flow → Shared → Prop) (I : Addr) (io : Obj) (Jn : (Str → Option Value) → List (Addr × Obj) → Prop) (f : Flow) (s₂ : Shared) : Prop :=
  match f with
  | .ret v => Q (.ret v) s₂
  | .brk => Q .next s₂
  | _ => ∃ h' tk m' news', s₂ = { s with heap := h', toks := tk } ∧ Fr h₀ L h' m' ∧ News h₀ L h' ((I, io) :: news') ∧ (∀ p ∈ news', p.1 ≠ I) ∧ Jn m' news'
section
variable {prog : Program} {w : World} {A : Around} {E : Value → Shared → Prop} {s : Shared} {env : Env} {h₀ : Heap} {x : Str} {body : List Stmt} {Q : Flow → Shared → Prop}
/-- a walk whose footprint is its iterator and what stands in h₀ -/
theorem loop_of_walk {I : Addr} {fp : List Addr} {n : Nat} {P : Nat → Value → Prop} {St : Nat → Heap → Prop} {m₀ : Str → Option Value} {news : List (Addr × Obj)} {s₂ : Shared}
    (W : Walks prog w A I fp [I] n P St) (J : Nat → (Str → Option Value) → List (Addr × Obj) → Prop) (hI : I ∈ fp) (hfp : ∀ b ∈ fp, b ≠ I → ∃ o, h₀.get? b = some o)
    (hs : ∃ h tk, s₂ = { s with heap := h, toks := tk }) (hst : St 0 s₂.heap) (F : Fr h₀ env.locals s₂.heap m₀) (N : News h₀ env.locals s₂.heap news) (hIL : I ≠ env.locals) (hI0 : h₀.get? I = none) (hIo : ∃ o, s₂.heap.get? I = some o) (hIn : ∀ p ∈ news, p.1 ≠ I) (hj : J 0 m₀ news)
    (hIs : ∀ i h, St i h → ∃ o, h.get? I = some o)
    (turn : ∀ i v m₁ news₁ h tk io, i < n → P i v → J i m₁ news₁ → (∀ p ∈ news₁, p.1 ≠ I) → Fr h₀ env.locals h (fun y => if y = x then some v else m₁ y) → News h₀ env.locals h ((I, io) :: news₁) →
      wpAny (model prog w) A (execs body env) (TurnEnd h₀ env.locals s Q I io (J (i + 1))) E { s with heap := h, toks := tk })
    (done : ∀ m₁ news₁ h tk, J n m₁ news₁ → Fr h₀ env.locals h m₁ → News h₀ env.locals h news₁ → Q .next { s with heap := h, toks := tk }) :
    LoopAtV prog w A h₀ env x body Q E (.ref I) s₂ := by
  obtain ⟨h, tk, rfl⟩ := hs
  have hLfp : env.locals ∉ fp := fun hm => by
    by_cases q : env.locals = I
    · exact hIL q.symm
    · obtain ⟨o, ho⟩ := hfp _ hm q
      exact absurd (Nat.lt_of_lt_of_le (Heap.lt_size ho) F.above) (Nat.lt_irrefl _)
  refine ⟨I, fp, [I], n, P, St, m₀, news, J, rfl, W, hLfp, fun b hb => by rw [List.mem_singleton.mp hb]; exact hI0, fun p hp hm => hIn p hp (List.mem_singleton.mp hm), hst, F, N, hj, ?_, fun h' tk' m' news' F' N' _ hJ => done m' news' h' tk' hJ F' N'⟩
  rintro i v m₁ news₁ s₁ own ⟨h₁, tk₁, rfl⟩ hi hP hJ hnw hown hget hall hst₁ F₁ N₁
  obtain ⟨io, hio⟩ := hIs _ _ hst₁
  have hmem : (I, io) ∈ own := hall I hI hI0 io hio
  have hsub : ∀ q ∈ own, q = (I, io) := fun q hq => by
    have h2 := N₁ q (List.mem_append_left _ hq)
    by_cases e : q.1 = I
    · have h3 := hget q hq
      rw [e, hio] at h3
      cases q; cases e; cases h3; rfl
    · obtain ⟨o, ho⟩ := hfp _ (hown q hq) e
      rw [h2.2.2] at ho; cases ho
  refine wpAny_mono (turn i v m₁ news₁ h₁ tk₁ io hi hP hJ (fun p hp e => hnw p hp (List.mem_singleton.mpr e)) F₁ fun q hq => ?_) (fun f s₃ e => ?_) fun _ _ e => e
  · rcases List.mem_cons.mp hq with rfl | hq
    · exact N₁ _ (List.mem_append_left _ hmem)
    · exact N₁ q (List.mem_append_right _ hq)
  · have fin : (∃ h' tk m' news', s₃ = { s with heap := h', toks := tk } ∧ Fr h₀ env.locals h' m' ∧ News h₀ env.locals h' ((I, io) :: news') ∧ (∀ p ∈ news', p.1 ≠ I) ∧ J (i + 1) m' news') →
        LoopStepU h₀ env.locals [I] own (J (i + 1)) { s with heap := h₁, toks := tk₁ } .next s₃ := by
      rintro ⟨h', tk, m', news', rfl, F', N', hn, hm⟩
      exact ⟨rfl, h', tk, m', news', rfl, F', fun p hp => (List.mem_append.mp hp).elim (fun q => by rw [hsub p q]; exact N' _ (.head _)) fun q => N' p (.tail _ q), fun p hp hm => hn p hp (List.mem_singleton.mp hm), hm⟩
    cases f with
    | ret v => exact .ret e
    | brk => exact .brk e
    | next => exact .next (fin e)
    | cont => exact .cont (fin e)
theorem range_loop {r : Addr} {n : Nat} {t u v : Tok} {m₀ : Str → Option Value} {news : List (Addr × Obj)} (J : Nat → (Str → Option Value) → List (Addr × Obj) → Prop)
    (hh : A.handled = none) (hr : IsRange s.heap r 0 n 1 t u v) (hn : n < 2 ^ 60) (F : Fr h₀ env.locals s.heap m₀) (N : News h₀ env.locals s.heap news) (hj : J 0 m₀ news)
    (turn : ∀ i t m₁ news₁ h tk I io, i < n → J i m₁ news₁ → (∀ p ∈ news₁, p.1 ≠ I) → Fr h₀ env.locals h (fun y => if y = x then some (.int (i : Int) t) else m₁ y) → News h₀ env.locals h ((I, io) :: news₁) →
      wpAny (model prog w) A (execs body env) (TurnEnd h₀ env.locals s Q I io (J (i + 1))) E { s with heap := h, toks := tk })
    (done : ∀ m₁ news₁ h tk, J n m₁ news₁ → Fr h₀ env.locals h m₁ → News h₀ env.locals h news₁ → Q .next { s with heap := h, toks := tk }) :
    wpAny (model prog w) A (pyIter (.ref r)) (fun it s₂ => LoopAtV prog w A h₀ env x body Q E it s₂) E s := by
  have hsm : Builtin.Range.small 0 n 1 = true := small_one (by omega) (by omega) (by omega) (by omega)
  have hsz : Builtin.Range.rangeSize 0 n 1 = n := by
    unfold Builtin.Range.rangeSize
    rw [if_pos (by decide)]
    split <;> omega
  refine wpAny_pyIter_range hr hsm ?_
  rw [hsz]
  refine loop_of_walk (Walks.range hh s.heap.objs.size 0 1 n) J (.head _) (fun b hb e => absurd (List.mem_singleton.mp hb) e) ⟨_, _, rfl⟩ ?_ (F.push _) (fun p hp => ⟨Heap.get?_push_of_some _ (N p hp).1, (N p hp).2⟩) (Nat.ne_of_gt F.ns.lt) (next_is_new F) ⟨_, Heap.get?_push_size _ rfl⟩
    (fun p hp => Nat.ne_of_lt (Heap.lt_size (N p hp).1)) hj (fun i h e => ⟨_, e⟩) ?_ done
  · have := Heap.get?_push_size s.heap (o := { cls := .type "range_iterator", data := .fields #[rawInt 0, rawInt n, rawInt 1] }) rfl
    simpa [IsRangeIter] using this
  · rintro i v m₁ news₁ h tk io hi ⟨t, rfl⟩ hJ hne F₁ N₁
    have := turn i t m₁ news₁ h tk s.heap.objs.size io hi hJ hne
    simp only [Int.mul_one, Int.zero_add] at F₁
    exact this F₁ N₁
theorem list_loop {l : Addr} {vs : List Value} {m₀ : Str → Option Value} {news : List (Addr × Obj)} (J : Nat → (Str → Option Value) → List (Addr × Obj) → Prop)
    (hh : A.handled = none) (hl : h₀.IsList l vs.toArray) (F : Fr h₀ env.locals s.heap m₀) (N : News h₀ env.locals s.heap news) (hj : J 0 m₀ news)
    (turn : ∀ i v m₁ news₁ h tk I io, vs[i]? = some v → J i m₁ news₁ → (∀ p ∈ news₁, p.1 ≠ I) → Fr h₀ env.locals h (fun y => if y = x then some v else m₁ y) → News h₀ env.locals h ((I, io) :: news₁) →
      wpAny (model prog w) A (execs body env) (TurnEnd h₀ env.locals s Q I io (J (i + 1))) E { s with heap := h, toks := tk })
    (done : ∀ m₁ news₁ h tk, J vs.length m₁ news₁ → Fr h₀ env.locals h m₁ → News h₀ env.locals h news₁ → Q .next { s with heap := h, toks := tk }) :
    wpAny (model prog w) A (pyIter (.ref l)) (fun it s₂ => LoopAtV prog w A h₀ env x body Q E it s₂) E s := by
  have hls : s.heap.IsList l vs.toArray := hl.at fun o e => F.keep l o e
  obtain ⟨ol, hol, _⟩ := id hl
  have hlt : l < s.heap.objs.size := Heap.lt_size (F.keep _ _ hol)
  refine wpAny_pyIter_list hls ?_
  have W := Walks.list (prog := prog) (w := w) hh s.heap.objs.size l (Nat.ne_of_lt hlt) vs.toArray
  rw [List.size_toArray] at W
  refine loop_of_walk W J (.head _) (fun b hb e => ?_) ⟨_, _, rfl⟩ ⟨⟨_, Heap.get?_push_size _ rfl, rfl, rfl⟩, hls.at fun o e => Heap.get?_push_of_some _ e⟩ (F.push _) (fun p hp => ⟨Heap.get?_push_of_some _ (N p hp).1, (N p hp).2⟩) (Nat.ne_of_gt F.ns.lt) (next_is_new F) ⟨_, Heap.get?_push_size _ rfl⟩
    (fun p hp => Nat.ne_of_lt (Heap.lt_size (N p hp).1)) hj (fun i h e => let ⟨⟨o, ho, _⟩, _⟩ := e; ⟨o, ho⟩) ?_ done
  · rcases List.mem_cons.mp hb with q | hb
    · exact absurd q e
    · exact ⟨ol, (List.mem_singleton.mp hb) ▸ hol⟩
  · rintro i v m₁ news₁ h tk io hi hv hJ hne F₁ N₁
    exact turn i v m₁ news₁ h tk s.heap.objs.size io (by simpa using hv) hJ hne F₁ N₁
theorem item_h0 {value slice : Expr} {l : Addr} {vs : List Value} {L : Addr} {m : Str → Option Value} {i : Nat} {u : Tok} {v : Value} {Q : Value → Shared → Prop} (hl : h₀.IsList l vs.toArray) (F : Fr h₀ L s.heap m) (hfit : i < 2 ^ 60) (hx : vs[i]? = some v) (h : Q v s)
    (hs : subscripted slice false (.ref l) (.int i u) = operate [.ref l, .int i u] (getItem (.ref l) (.int i u)) := by with_unfolding_all rfl) :
    wpAny (model prog w) A (subscriptTail value slice (.ref l) (.int i u)) Q E s :=
  have hl' := hl.at fun o e => F.keep l o e
  tail_any hl'.typeIs slot_list_getitem.lookup (wpAny_getItem_list hl' (by omega) (by omega) (by simpa using hx) h) hs
theorem mapOf_keeps {h h' : Heap} {K : Type} [DecidableEq K] {knd : KeyKind prog w K} {d : Addr} {f : K → Option Value} (hm : h.MapOf knd d f) (k : h.StaysIn h') : h'.MapOf knd d f :=
  let ⟨o, es, ep, ho, r⟩ := hm; ⟨o, es, ep, k _ _ ho, r⟩
theorem dict_h0 {value slice : Expr} {d : Addr} {f : Str → Option Value} {L : Addr} {m : Str → Option Value} {x : Str} {u : Tok} {v : Value} {Q : Value → Shared → Prop} (hm : h₀.MapOf (strKind prog w) d f) (F : Fr h₀ L s.heap m) (hx : f x = some v) (h : Q v { s with toks := s.toks + 1 })
    (hs : subscripted slice false (.ref d) (.str x u) = operate [.ref d, .str x u] (getItem (.ref d) (.str x u)) := by with_unfolding_all rfl) :
    wpAny (model prog w) A (subscriptTail value slice (.ref d) (.str x u)) Q E s :=
  have hm' := mapOf_keeps hm F.keep
  tail_any hm'.typeIs slot_dict_getitem.lookup (wpAny_getItem_of (strKind_is prog w x u) hm' hx h) hs
theorem len_h0 {l : Addr} {vs : List Value} {L : Addr} {m : Str → Option Value} {Q : Value → Shared → Prop} (hl : h₀.IsList l vs.toArray) (F : Fr h₀ L s.heap m) (hfit : vs.length < 2 ^ 60) (h : Q (.int vs.length (s.toks + 1)) { s with toks := s.toks + 1 + 1 }) :
    wpAny (model prog w) A (call (.builtin "len") [.ref l]) Q E s :=
  call_len_list (hl.at fun o e => F.keep l o e) (by rw [List.size_toArray]; omega) (by rw [List.size_toArray]; exact h)
end
end Mine
end -- B2
section -- HA
open PySem PySem.W PyProof.Rows PySem.Calls PySem.Spec
namespace Mine
noncomputable def HoldsAll (fz : List (Addr × Obj)) (h : Heap) : Prop := ∀ q ∈ fz, h.get? q.1 = some q.2
end Mine
end -- HA
section -- K1
open PySem PySem.W PyProof.Rows PySem.Calls PySem.Spec
set_option maxHeartbeats 1000000
namespace Mine
section
variable {prog : Program} {w : World} {A : Around} {E : Value → Shared → Prop} {h : Heap} {g : Array GenState} {d : Drawn} {t : Nat} {os : OsState} {a : Addr} {o : Obj}
theorem lk_list_keys : typeLookup (.type "list") "keys" = pure none := by rw [typeLookup_type, builtinLookup_eq_fast]; kernel_rfl
theorem lk_list_ga : typeLookup (.type "list") "__getattr__" = pure none := by rw [typeLookup_type, builtinLookup_eq_fast]; kernel_rfl
theorem sub_ae : isSubtype (.type "AttributeError") (.type "AttributeError") = pure true := by rw [isSubtype_type]; kernel_rfl
theorem raise_attr {α : Type} {ob : Value} {name msg : Str} {Q : α → Shared → Prop} (hh : A.handled = none) (hm : msg.length ≤ 1000)
    (hE : ∀ h' tk e, h.StaysIn h' → (∃ o, h'.get? e = some o ∧ o.cls = .type "AttributeError") → E (.ref e) ⟨h', g, d, tk, os⟩) :
    wpAny (model prog w) A (raiseAttrError (α := α) ob name msg) Q E ⟨h, g, d, t, os⟩ := by
  unfold raiseAttrError
  have f1 := sub_ae
  have f2 : (((Manifest.find? "AttributeError").elim false fun t => t.mro.contains "StopIteration" || t.mro.contains "SystemExit") = true) = False := by
    rw [find?_eq_fast]; simp only [eq_iff_iff, iff_false]; intro h; revert h; decide +kernel
  repeat (any_goals (first | assumption | wp_step))
  unfold raiseNew
  refine wpAny_bind (wpAny_handled ?_)
  rw [hh]
  refine wpAny_bind (wpAny_pure (wpAny_throw ?_))
  refine hE _ _ _ (fun b o e => ?_) ?_
  · refine (Heap.get?_update_other _ _ ?_).trans (Heap.get?_push_of_some _ (Heap.get?_push_of_some _ e))
    have := Heap.lt_size e
    rw [Heap.size_push]
    exact Nat.ne_of_gt (Nat.lt_succ_of_lt this)
  · exact ⟨_, Heap.get?_update_self _ (Heap.get?_push_size _ rfl) rfl, rfl⟩
theorem keys_entry {tk : Tok} {Q : Fin → Shared → Prop} {its : Array Value} {n : Nat} (hh : A.handled = none) (hx : h.get? a = some (⟨.type "list", none, .seq its n, #[]⟩ : Obj))
    (hE : ∀ h' tk e, h.StaysIn h' → (∃ o, h'.get? e = some o ∧ o.cls = .type "AttributeError") → E (.ref e) ⟨h', g, d, tk, os⟩) :
    wpAny (model prog w) A (Builtin.«object.__getattribute__» ⟨[.ref a, .str "keys" tk], []⟩) Q E ⟨h, g, d, t, os⟩ := by
  have hT : (⟨h, g, d, t, os⟩ : Shared).TypeIs (.ref a) "list" := ⟨_, hx, rfl⟩
  have f4 := lk_list_keys
  repeat (any_goals (first | assumption | wp_step))
  refine raise_attr hh ?_ hE
  rw [find?_eq_fast]
  decide +kernel
theorem keys_call {tk : Tok} {R : Result → Shared → Prop} {its : Array Value} {n : Nat} (hh : A.handled = none) (hx : h.get? a = some (⟨.type "list", none, .seq its n, #[]⟩ : Obj))
    (hR : ∀ h' tk e, h.StaysIn h' → (∃ o, h'.get? e = some o ∧ o.cls = .type "AttributeError") → R (.error (.ref e)) ⟨h', g, d, tk, os⟩) :
    codeAny (model prog w) A (.call (.builtin "list.__getattribute__") ⟨[.ref a, .str "keys" tk], []⟩) R ⟨h, g, d, t, os⟩ :=
  codeAny_call_builtin F.slot_list_getattribute.plain F.entry_list_ga (F.slot_list_getattribute.check _ _ _ _ _ _ _ _ (show (⟨h, g, d, t, os⟩ : Shared).TypeIs (.ref a) "list" from ⟨_, hx, rfl⟩) (F.args_list_getattribute_2 _ _) (keys_entry (A := A.in1) hh hx hR))
theorem keys_by {tk : Tok} {Q : Value → Shared → Prop} {its : Array Value} {n : Nat} (hh : A.handled = none) (hx : h.get? a = some (⟨.type "list", none, .seq its n, #[]⟩ : Obj))
    (hE : ∀ h' tk e, h.StaysIn h' → (∃ o, h'.get? e = some o ∧ o.cls = .type "AttributeError") → E (.ref e) ⟨h', g, d, tk, os⟩) : wpAny (model prog w) A (getAttrBy (.ref a) (.str "keys" tk) false) Q E ⟨h, g, d, t, os⟩ := by
  have hT : (⟨h, g, d, t, os⟩ : Shared).TypeIs (.ref a) "list" := ⟨_, hx, rfl⟩
  have f2 := F.slot_list_getattribute.lookup
  have f3 := F.slot_list_getattribute.bind (.ref a)
  repeat (any_goals (first | assumption | wp_step))
  refine keys_call hh hx fun h' tk' e st he => ?_
  obtain ⟨o, ho, hoc⟩ := id he
  have hTe : (⟨h', g, d, tk', os⟩ : Shared).TypeIs (.ref e) "AttributeError" := ⟨_, ho, hoc⟩
  show wpAny _ _ (getattributeRaised (Value.ref a) (Value.str (Str.ofString "keys") tk) (Value.type "list") (Value.ref e) none false false) _ _ _
  unfold getattributeRaised
  refine wpAny_bind (wpAny_isInstance hTe sub_ae ?_)
  simp only [if_true]
  have f5 := lk_list_ga
  refine wpAny_bind ?_
  show wpAny _ _ (typeLookup (.type "list") "__getattr__") _ _ _
  rw [f5]
  refine wpAny_pure ?_
  exact wpAny_throw (hE h' tk' e st he)
theorem keys_none {Q : Option Value → Shared → Prop} {its : Array Value} {n : Nat} (hh : A.handled = none) (hx : h.get? a = some (⟨.type "list", none, .seq its n, #[]⟩ : Obj))
    (hQ : ∀ h' tk, h.StaysIn h' → Q none ⟨h', g, d, tk, os⟩) : wpAny (model prog w) A (getAttr? (.ref a) "keys") Q E ⟨h, g, d, t, os⟩ := by
  unfold getAttr? getAttrBy?
  refine wpAny_bind (wpAny_mkText ?_)
  refine wpAny_bind (wpAny_attempt (keys_by hh hx fun h' tk' e st he => ?_))
  obtain ⟨o, ho, hoc⟩ := id he
  have hTe : (⟨h', g, d, tk', os⟩ : Shared).TypeIs (.ref e) "AttributeError" := ⟨_, ho, hoc⟩
  refine wpAny_bind (wpAny_isInstance hTe sub_ae ?_)
  exact wpAny_pure (hQ h' tk' st)
end
end Mine
end -- K1
section -- K2
open PySem PySem.W PyProof.Rows PySem.Calls PySem.Spec
set_option maxHeartbeats 1000000
namespace Mine
theorem entry_update_loop : entryFor table "dict.update.loop" = some Builtin.«dict.update.loop» := entryFor_of_tree (by kernel_rfl)
theorem plain_update_loop : plainId "dict.update.loop" = true := by decide +kernel
/-- the items are refs to pairs (key, value) -/
noncomputable def PairsIn {prog : Program} {w : World} {K : Type} [DecidableEq K] (knd : KeyKind prog w K) (h : Heap) (its : List Value) (kvs : List (K × Value)) : Prop :=
  its.length = kvs.length ∧ ∀ (i : Nat) (k : K) (v : Value), kvs[i]? = some (k, v) → ∃ T key u, its[i]? = some (.ref T) ∧ h.get? T = some (⟨.type "tuple", none, .seq #[key, v] u, #[]⟩ : Obj) ∧ knd.is k key = true
theorem PairsIn.keeps {prog : Program} {w : World} {K : Type} [DecidableEq K] {knd : KeyKind prog w K} {h h' : Heap} {its : List Value} {kvs : List (K × Value)} (x : PairsIn knd h its kvs) (st : h.StaysIn h') : PairsIn knd h' its kvs :=
  ⟨x.1, fun i k v e => let ⟨T, key, u, a, b, c⟩ := x.2 i k v e; ⟨T, key, u, a, st _ _ b, c⟩⟩
section
variable {prog : Program} {w : World} {K : Type} [DecidableEq K] {knd : KeyKind prog w K} {A : Around} {E : Value → Shared → Prop} {s : Shared} {R : Result → Shared → Prop}
theorem stored_new {kvs : List (K × Value)} {k : K} {v : Value} (h : k ∉ kvs.map (·.1)) : stored kvs k v = kvs ++ [(k, v)] := by
  unfold stored
  rw [if_neg]
  intro e
  obtain ⟨x, hx, e⟩ := List.any_eq_true.mp e
  exact h (List.mem_map.mpr ⟨x, hx, of_decide_eq_true e⟩)
theorem pairs_loop {D I l : Addr} {its : List Value} {n : Nat} {kvs : List (K × Value)} {h₁ : Heap} (hh : A.handled = none) (hDI : D ≠ I) (hlD : l ≠ D) (hlI : l ≠ I) (hD1 : h₁.get? D = none) (hI1 : h₁.get? I = none) (hl : h₁.get? l = some (W.listOf its.toArray n)) (hp : PairsIn knd h₁ its kvs) (hnd : (kvs.map (·.1)).Nodup) (hsz : kvs.length ≤ sizeLine)
    (hR : ∀ h' tk, h'.DictOf knd D kvs → h₁.StaysIn h' → R (.ok (.ret .none)) { s with heap := h', toks := tk }) :
    ∀ (j i : Nat) (h : Heap) (tk : Nat), kvs.length - i = j → i ≤ kvs.length → h₁.StaysIn h → h.DictOf knd D (kvs.take i) → h.IsListIter I l i →
      codeAny (model prog w) A (.builtin "dict.update.loop" ⟨[.ref D, .ref I, rawInt i, .none], []⟩) R { s with heap := h, toks := tk } := by
  intro j
  induction j with
  | zero =>
    intro i h tk hj hi st hd hit
    have hin : i = kvs.length := by omega
    refine codeAny_builtin entry_update_loop ?_
    rw [Around.under_plainId plain_update_loop _]
    show wpAny _ A.in1 (pyNext (.ref I) >>= _) _ _ _
    refine wpAny_bind (wpAny_pyNext_list_end (s := { s with heap := h, toks := tk }) (A := A.in1) (items := its.toArray) hh hit ⟨_, st _ _ hl, rfl, _, rfl⟩ (by simp; have := hp.1; omega) fun h' he => ?_)
    show wpAny _ _ (Builtin.Dict.addKeywords D [] >>= _) _ _ _
    refine wpAny_bind (wpAny_pure (wpAny_pure ?_))
    refine hR h' tk ?_ fun b o e => he b o (fun q => by rw [q, hI1] at e; cases e) (st b o e)
    rw [hin, List.take_of_length_le (Nat.le_refl _)] at hd
    exact hd.extBut he hDI
  | succ j ih =>
    intro i h tk hj hi st hd hit
    have hlt : i < kvs.length := by omega
    have hx : kvs[i]? = some (kvs[i].1, kvs[i].2) := List.getElem?_eq_getElem hlt
    obtain ⟨T, key, u, e1, e2, e3⟩ := hp.2 i _ _ hx
    refine codeAny_builtin entry_update_loop ?_
    rw [Around.under_plainId plain_update_loop _]
    show wpAny _ A.in1 (pyNext (.ref I) >>= _) _ _ _
    refine wpAny_bind (wpAny_pyNext_list_item (s := { s with heap := h, toks := tk }) (items := its.toArray) hit ⟨_, st _ _ hl, rfl, _, rfl⟩ (by simpa using e1) fun h₂ hit₂ hs₂ => ?_)
    have hT2 : h₂.get? T = some (⟨.type "tuple", none, .seq #[key, kvs[i].2] u, #[]⟩ : Obj) := hs₂.extBut T _ (fun q => by rw [q, hI1] at e2; cases e2) (st _ _ e2)
    have st₂ : h₁.StaysIn h₂ := fun b o e => hs₂.extBut b o (fun q => by rw [q, hI1] at e; cases e) (st b o e)
    show wpAny _ A.in1 (holding [Value.ref T] _ >>= _) _ _ _
    refine wpAny_bind (wpAny_holding ?_)
    refine wpAny_bind ?_
    refine wpAny_tryCatch ?_
    unfold Builtin.Dict.pairItems
    refine wpAny_bind (wpAny_typeOf (T := "tuple") ⟨_, hT2, rfl⟩ ?_)
    rw [if_pos (by decide)]
    refine wpAny_bind (wpAny_seqItems hT2 rfl (wpAny_pure ?_))
    show wpAny _ _ (holding [key, kvs[i].2] (dictSet D key kvs[i].2)) _ _ _
    refine wpAny_holding (wpAny_dictSet_pairs (s := { s with heap := h₂, toks := tk }) e3 (hd.sameBut hs₂ hDI) (fun h₃ hd₃ hs₃ => ?_) (by rw [List.length_take]; omega))
    refine wpAny_pure ⟨plainId_quiet plain_update_loop _, ?_⟩
    have hk : kvs[i].1 ∉ (kvs.take i).map (·.1) := by
      rw [List.map_take]
      intro hm
      obtain ⟨a, ha, e⟩ := List.mem_take_iff_getElem.mp hm
      have h1 : a < kvs.length := by simp at ha; omega
      have := (List.getElem_inj (h₀ := by simpa using h1) (h₁ := by simpa using hlt) hnd).mp (by simpa using e)
      simp at ha; omega
    rw [stored_new hk, show kvs.take i ++ [(kvs[i].1, kvs[i].2)] = kvs.take (i + 1) by rw [List.take_add_one, hx]; rfl] at hd₃
    have := ih (i + 1) h₃ (tk + 1) (by omega) (by omega) (fun b o e => hs₃.extBut b o (fun q => by rw [q, hD1] at e; cases e) (st₂ b o e)) hd₃ (let ⟨o, ho, x⟩ := hit₂; ⟨o, hs₃.extBut I o (Ne.symm hDI) ho, x⟩)
    simpa [rawInt] using this
theorem dict_pairs {l : Addr} {its : List Value} {n : Nat} {kvs : List (K × Value)} {Q : Value → Shared → Prop} (hh : A.handled = none) (hl : s.heap.get? l = some (W.listOf its.toArray n)) (hp : PairsIn knd s.heap its kvs) (hnd : (kvs.map (·.1)).Nodup) (hsz : kvs.length ≤ sizeLine)
    (h : ∀ h' tk, h'.DictOf knd s.heap.objs.size kvs → s.heap.StaysIn h' → Q (.ref s.heap.objs.size) { s with heap := h', toks := tk }) :
    wpAny (model prog w) A (call (.type "dict") [.ref l]) Q E s := by
  refine callType_codes (Q₁ := fun obj s₁ => obj = .ref s.heap.objs.size ∧ s₁ = { s with heap := s.heap.push { cls := .type "dict", data := .dict #[] } }) F.kt_called_dict (F.kt_typeCall_dict_1 _) F.entry_dict_init (kt_code_dict_new _ ⟨rfl, rfl⟩) ?_
  rintro obj s₁ ⟨rfl, rfl⟩
  have hnew : (s.heap.push { cls := .type "dict", data := .dict #[] }).DictOf knd s.heap.objs.size [] := Heap.DictOf.new s.heap
  have hll : l < s.heap.objs.size := Heap.lt_size hl
  have hl' := Heap.get?_push_of_some { cls := .type "dict", data := .dict #[] } hl
  refine ⟨hnew.typeIs, F.args_dict_init_2 _ _, ?_⟩
  unfold Builtin.«dict.__init__»
  refine wpAny_bind ?_
  unfold Builtin.Dict.selfAndRest
  refine wpAny_bind (wpAny_notOrdered_dict hnew.typeIs ?_)
  show wpAny _ _ (pure (s.heap.objs.size, [Value.ref l])) _ _ _
  refine wpAny_pure ?_
  show wpAny _ _ (Builtin.Dict.updateFrom "dict.__init__" s.heap.objs.size (.ref l) [] .none) _ _ _
  unfold Builtin.Dict.updateFrom
  refine wpAny_bind (wpAny_typeOf (T := "list") ⟨_, hl', rfl⟩ ?_)
  rw [if_pos (by decide)]
  refine wpAny_bind (keys_none (A := A.in1.in1) hh hl' fun h₂ tk₂ st₂ => ?_)
  rw [if_pos (show (none : Option Value).isNone = true from rfl)]
  refine wpAny_bind (wpAny_rule ?_)
  refine wpAny_bind (wpAny_pyIter_list (s := ⟨h₂, s.gens, s.drawn, tk₂, s.os⟩) (items := its.toArray) ⟨_, st₂ _ _ hl', rfl, _, rfl⟩ ?_)
  refine wpAny_pure ⟨plainId_quiet plain_update_loop _, ?_⟩
  have hD2 := hnew.mapOf
  obtain ⟨oD, esD, epD, hD, rD⟩ := id hnew
  have hDI : s.heap.objs.size < h₂.objs.size := Heap.lt_size (st₂ _ _ hD)
  refine pairs_loop (s := s) (A := A.in1) (D := s.heap.objs.size) (I := h₂.objs.size) (l := l) (its := its) (n := n) (kvs := kvs) (h₁ := s.heap) hh (Nat.ne_of_lt hDI) (Nat.ne_of_lt hll) (Nat.ne_of_lt (Nat.lt_trans hll hDI)) (Heap.get?_none_of_le (Nat.le_refl _)) (Heap.get?_none_of_le (Nat.le_of_lt hDI)) hl hp hnd hsz (fun h' tk hd st => ⟨rfl, h h' tk hd st⟩) kvs.length 0 _ _ (Nat.sub_zero _) (Nat.zero_le _) (fun b o e => Heap.get?_push_of_some _ (st₂ _ _ (Heap.get?_push_of_some _ e))) ⟨oD, esD, epD, Heap.get?_push_of_some _ (st₂ _ _ hD), rD⟩ ⟨_, Heap.get?_push_size _ rfl, rfl, rfl⟩
end
end Mine
end -- K2
section -- K3
open PySem PySem.W PyProof.Rows PySem.Calls PySem.Spec
set_option maxHeartbeats 1000000
namespace Mine
/-- the ledger with one object changed -/
noncomputable def put (news : List (Addr × Obj)) (D : Addr) (o : Obj) : List (Addr × Obj) := news.map fun q => if q.1 = D then (D, o) else q
theorem put_mem {news : List (Addr × Obj)} {D : Addr} {o o' : Obj} (h : (D, o) ∈ news) : (D, o') ∈ put news D o' :=
  List.mem_map.mpr ⟨(D, o), h, by simp⟩
theorem put_other {news : List (Addr × Obj)} {D : Addr} {o' : Obj} {q : Addr × Obj} (h : q ∈ news) (hn : q.1 ≠ D) : q ∈ put news D o' :=
  List.mem_map.mpr ⟨q, h, by simp [hn]⟩
theorem put_back {news : List (Addr × Obj)} {D : Addr} {o' : Obj} {q : Addr × Obj} (h : q ∈ put news D o') : q = (D, o') ∨ (q ∈ news ∧ q.1 ≠ D) := by
  obtain ⟨x, hx, e⟩ := List.mem_map.mp h
  by_cases c : x.1 = D
  · rw [if_pos c] at e; exact .inl e.symm
  · rw [if_neg c] at e; subst e; exact .inr ⟨hx, c⟩
theorem news_put {h₀ h h' : Heap} {L D : Addr} {o o' : Obj} {news : List (Addr × Obj)} (N : News h₀ L h news) (hm : (D, o) ∈ news) (hs : Heap.SameBut D h h') (ho : h'.get? D = some o') : News h₀ L h' (put news D o') := by
  intro q hq
  rcases put_back hq with rfl | ⟨hq, hn⟩
  · exact ⟨ho, (N _ hm).2⟩
  · exact ⟨(hs.2 _ hn).trans (N q hq).1, (N q hq).2⟩
/-- what a change of one object leaves -/
structure Turned (news news' : List (Addr × Obj)) (D : Addr) (o' : Obj) : Prop where
  new : (D, o') ∈ news'
  old : ∀ q ∈ news, q.1 ≠ D → q ∈ news'
  back : ∀ q ∈ news', q = (D, o') ∨ (q ∈ news ∧ q.1 ≠ D)
theorem put_turned {news : List (Addr × Obj)} {D : Addr} {o o' : Obj} (hm : (D, o) ∈ news) : Turned news (put news D o') D o' := ⟨put_mem hm, fun _ h hn => put_other h hn, fun _ h => put_back h⟩
theorem news_ne {h₀ h : Heap} {L : Addr} {news : List (Addr × Obj)} {q r : Addr × Obj} (N : News h₀ L h news) (hq : q ∈ news) (hr : r ∈ news) (hne : q.2 ≠ r.2) : q.1 ≠ r.1 := fun e => by
  have h1 := (N q hq).1
  rw [e, (N r hr).1] at h1
  exact hne (Option.some.inj h1).symm
section
variable {prog : Program} {w : World} {A : Around} {E : Value → Shared → Prop} {s : Shared} {h₀ : Heap} {L D : Addr} {m : Str → Option Value} {news : List (Addr × Obj)}
theorem append_M {its : List Value} {n : Nat} {x : Value} {Q : Value → Shared → Prop} (F : Fr h₀ L s.heap m) (N : News h₀ L s.heap news) (hm : (D, W.listOf its.toArray n) ∈ news) (hz : its.length ≤ 1000000)
    (h : ∀ h' news', Fr h₀ L h' m → News h₀ L h' news' → Turned news news' D (W.listOf (its ++ [x]).toArray (n + 1)) → Q .none { s with heap := h' }) : wpAny (model prog w) A (call (.builtin "list.append") [.ref D, x]) Q E s :=
  have z := N _ hm
  append_at z.1 (fun h' hs ho' => by
    rw [List.push_toArray] at ho'
    exact h h' _ (F.change hs z.2.1 z.2.2) (news_put N hm hs ho') (put_turned hm)) (by rw [List.size_toArray]; have : sizeLine = 2 ^ 24 := rfl; omega)
theorem item_M {value slice : PySem.Expr} {l : Addr} {vs : List Value} {k : Nat} {i : Nat} {u : Tok} {v : Value} {Q : Value → Shared → Prop} (N : News h₀ L s.heap news) (hm : (l, W.listOf vs.toArray k) ∈ news) (hfit : i < 2 ^ 60) (hx : vs[i]? = some v) (h : Q v s)
    (hs : subscripted slice false (.ref l) (.int i u) = operate [.ref l, .int i u] (getItem (.ref l) (.int i u)) := by with_unfolding_all rfl) :
    wpAny (model prog w) A (subscriptTail value slice (.ref l) (.int i u)) Q E s :=
  have hl' : s.heap.IsList l vs.toArray := ⟨_, (N _ hm).1, rfl, _, rfl⟩
  tail_any hl'.typeIs slot_list_getitem.lookup (wpAny_getItem_list hl' (by omega) (by omega) (by simpa using hx) h) hs
theorem len_M {l : Addr} {vs : List Value} {kl : Nat} {Q : Value → Shared → Prop} (N : News h₀ L s.heap news) (hm : (l, W.listOf vs.toArray kl) ∈ news) (hfit : vs.length < 2 ^ 60) {j : Nat} (hj : vs.length = j) (h : Q (.int j (s.toks + 1)) { s with toks := s.toks + 1 + 1 }) :
    wpAny (model prog w) A (call (.builtin "len") [.ref l]) Q E s :=
  have hl : s.heap.IsList l vs.toArray := ⟨_, (N _ hm).1, rfl, _, rfl⟩
  call_len_list hl (by rw [List.size_toArray]; omega) (by rw [List.size_toArray, hj]; exact h)
theorem method_M {name : Str} {id : String} {pl : Sem Bool} {l : Addr} {vs : List Value} {kl : Nat} {Q : Value × List Value → Shared → Prop} (slot : Slot "list" name id) (hty : typeOf (.builtin id) = pure (.type "method_descriptor"))
    (N : News h₀ L s.heap news) (hm : (l, W.listOf vs.toArray kl) ∈ news) (h : Q (.builtin id, [.ref l]) s) : wpAny (model prog w) A (getMethod (.ref l) name pl) Q E s :=
  have hl : s.heap.IsList l vs.toArray := ⟨_, (N _ hm).1, rfl, _, rfl⟩
  getMethod_list_of slot hty hl ⟨_, (N _ hm).1, rfl⟩ h
end
section
variable {prog : Program} {w : World} {K : Type} [DecidableEq K] {knd : KeyKind prog w K} {A : Around} {E : Value → Shared → Prop} {s : Shared} {h₀ : Heap} {L d : Addr} {m : Str → Option Value} {news : List (Addr × Obj)} {o : Obj} {kvs : List (K × Value)}
/-- refs to pairs of the ledger -/
noncomputable def PairsL (knd : KeyKind prog w K) (news : List (Addr × Obj)) (its : List Value) (kvs : List (K × Value)) : Prop :=
  its.length = kvs.length ∧ ∀ (i : Nat) (k : K) (v : Value), kvs[i]? = some (k, v) → ∃ T key u, its[i]? = some (.ref T) ∧ (T, (⟨.type "tuple", none, .seq #[key, v] u, #[]⟩ : Obj)) ∈ news ∧ knd.is k key = true
theorem PairsL.more {news news' : List (Addr × Obj)} {its : List Value} (x : PairsL knd news its kvs) (hs : ∀ q ∈ news, q ∈ news') : PairsL knd news' its kvs :=
  ⟨x.1, fun i k v e => let ⟨T, key, u, a, b, c⟩ := x.2 i k v e; ⟨T, key, u, a, hs _ b, c⟩⟩
theorem PairsL.cons {news : List (Addr × Obj)} {its : List Value} {T : Addr} {key : Value} {k : K} {v : Value} {u : Nat} (x : PairsL knd news its kvs) (hT : (T, (⟨.type "tuple", none, .seq #[key, v] u, #[]⟩ : Obj)) ∈ news) (hk : knd.is k key = true) : PairsL knd news (Value.ref T :: its) ((k, v) :: kvs) := by
  refine ⟨by simp [x.1], fun i k' v' e => ?_⟩
  cases i with
  | zero =>
    simp only [List.getElem?_cons_zero, Option.some.injEq, Prod.mk.injEq] at e
    obtain ⟨rfl, rfl⟩ := e
    exact ⟨T, key, u, rfl, hT, hk⟩
  | succ i => exact x.2 i k' v' (by simpa using e)
end
end Mine
end -- K3
section -- C4
open PySem PySem.W PyProof.Rows PySem.Calls PySem.Spec
namespace Mine
/-! a comprehension over one name: what its turns make, with a test or without -/
section
variable {prog : Program} {w : World} {A : Around} {E : Value → Shared → Prop} {env : Env} {s : Shared}
/-- a turn's test -/
noncomputable def Tst (prog : Program) (w : World) (A : Around) (env : Env) (E : Value → Shared → Prop) (K₁ K₀ : Shared → Prop) : List PySem.Expr → Shared → Prop
  | [], s => K₁ s
  | c :: _, s => wpAny (model prog w) A (isTrue c env (eval c env)) (fun ok s₃ => if ok = true then K₁ s₃ else K₀ s₃) E s
theorem cg_loop {elt target iter : PySem.Expr} {ifs : List PySem.Expr} {scope : Scope} {pos : Pos} {it acc : Value} {R : Result → Shared → Prop} (I : Nat → Shared → Prop) (hifs : ifs = [] ∨ ∃ c, ifs = [c])
    (turn : ∀ n s, I n s → wpAny (model prog w) A (pyNext it) (fun r s₁ => match r with
      | none => R (.ok .next) s₁
      | some v => wpAny (model prog w) A (letOwnedTupleGo target it v) (fun _ s₀ => wpAny (model prog w) A (assign target env v) (fun _ s₂ =>
          Tst prog w A env (notedBy (model prog w) A env fun e s' => R (.error e) s') (fun s₃ => wpAny (model prog w) A (eval elt env) (fun x s₄ =>
            wpAny (model prog w) A (call (.builtin "list.append") [acc, x]) (fun _ s₅ => ∃ m, m < n ∧ I m s₅) (notedBy (model prog w) A env fun e s' => R (.error e) s') s₄) (notedBy (model prog w) A env fun e s' => R (.error e) s') s₃)
            (fun s₃ => ∃ m, m < n ∧ I m s₃) ifs s₂)
          (notedBy (model prog w) A env fun e s' => R (.error e) s') s₀) (notedBy (model prog w) A env fun e s' => R (.error e) s') s₁) (notedBy (model prog w) A env fun e s' => R (.error e) s') s)
    (n : Nat) (h : I n s) : codeAny (model prog w) A (.compLoop (.ListComp elt [⟨target, iter, ifs, 0⟩] scope pos) 0 it acc env) R s := by
  rcases hifs with rfl | ⟨c, rfl⟩
  · exact kcp_loop I turn n h
  · exact kct_loop I turn n h
/-- what a turn has made: a plain value, or a new object -/
noncomputable def ItemIs (V : Nat → Value → Prop) (G : Nat → Obj → Prop) (i : Nat) (r : Value) (h h' : Heap) : Prop := V i r ∨ ∃ P o, r = Value.ref P ∧ h.objs.size ≤ P ∧ h'.get? P = some o ∧ G i o
noncomputable def MadeG (V : Nat → Value → Prop) (G : Nat → Obj → Prop) (kept : List Nat) (g : Nat) (no : List Addr) (h : Heap) (ys : List Value) : Prop :=
  ys.length = kept.length ∧ ∀ (j : Nat) (y : Value) (i : Nat), ys[j]? = some y → kept[j]? = some i → V i y ∨ ∃ P o, y = Value.ref P ∧ g ≤ P ∧ h.get? P = some o ∧ G i o ∧ P ∉ no
theorem MadeG.move {V : Nat → Value → Prop} {G : Nat → Obj → Prop} {kept : List Nat} {g : Nat} {no no' : List Addr} {h h' : Heap} {ys : List Value} (M : MadeG V G kept g no h ys) (k : ∀ b o, b ∉ no → h.get? b = some o → h'.get? b = some o) (hn : ∀ b ∈ no', b ∈ no) : MadeG V G kept g no' h' ys :=
  ⟨M.1, fun j y i hj hi => (M.2 j y i hj hi).imp id fun ⟨P, o, a, b, c, d, e⟩ => ⟨P, o, a, b, k P o e c, d, fun m => e (hn P m)⟩⟩
theorem MadeG.snoc {V : Nat → Value → Prop} {G : Nat → Obj → Prop} {kept : List Nat} {g : Nat} {no : List Addr} {h : Heap} {ys : List Value} (M : MadeG V G kept g no h ys) {r : Value} {i : Nat} (hr : V i r ∨ ∃ P o, r = Value.ref P ∧ g ≤ P ∧ h.get? P = some o ∧ G i o ∧ P ∉ no) :
    MadeG V G (kept ++ [i]) g no h (ys ++ [r]) := by
  refine ⟨by simp [M.1], fun j y i' hj hi => ?_⟩
  rcases Nat.lt_trichotomy j ys.length with q | q | q
  · rw [List.getElem?_append_left q] at hj
    rw [List.getElem?_append_left (by rw [← M.1]; exact q)] at hi
    exact M.2 j y i' hj hi
  · subst q
    have e1 : y = r := by simpa using hj.symm
    have e2 : i' = i := by rw [M.1] at hi; simpa using hi.symm
    subst e1 e2
    exact hr
  · rw [List.getElem?_eq_none (by simp; omega)] at hj; cases hj
/-- the indices that the test lets through -/
noncomputable def keptTo (keep : Nat → Bool) (n : Nat) : List Nat := (List.range n).filter keep
theorem keptTo_succ (keep : Nat → Bool) (n : Nat) : keptTo keep (n + 1) = if keep n then keptTo keep n ++ [n] else keptTo keep n := by
  unfold keptTo
  rw [List.range_succ, List.filter_append]
  cases h : keep n <;> simp [h]
theorem keptTo_len (keep : Nat → Bool) (n : Nat) : (keptTo keep n).length ≤ n := by
  unfold keptTo
  have := List.length_filter_le keep (List.range n)
  simpa using this
theorem keptTo_all (n : Nat) : keptTo (fun _ => true) n = List.range n := by simp [keptTo, List.filter_eq_self.mpr]
theorem comp_core {elt iter : PySem.Expr} {ifs : List PySem.Expr} {a : Str} {pa : Pos} {scope : Scope} {cl : List (Str × Addr)} {pos : Pos} {Q : Value → Shared → Prop} {use : Option (Value → Sem Unit)} {cpos : Pos} {n : Nat} {P : Nat → Value → Prop} {keep : Nat → Bool} {V : Nat → Value → Prop} {G : Nat → Obj → Prop} {B₀ : Nat} {K : Heap → Prop} (hK : ∀ h h' : Heap, K h → (∀ b o, b < B₀ → h.get? b = some o → h'.get? b = some o) → K h')
    (hclos : closureFor scope env = pure cl) (hcell : ∀ y ∈ scope.names, y.2 ≠ .cell) (hkind : scope.kind = .function)
    (hnames : ∀ y ∈ scope.names, y.2 = .local → scope.names.lookup y.1 = some .local) (ha : scope.names.lookup a = some .local) (hsz : n ≤ 1000000)
    (hiter : ∀ Q' : Value → Shared → Prop, (∀ I h₂ tk₂ fp St, B₀ ≤ I → I < h₂.objs.size → K h₂ → (∀ b ∈ fp, b < h₂.objs.size) → I ∈ fp → Walks prog w A I fp [I] n P St → (∀ i h, St i h → ∃ o, h.get? I = some o) → St 0 h₂ → Q' (.ref I) { s with heap := h₂, toks := tk₂ }) →
      wpAny (model prog w) A (eval iter env) (fun xv s₁ => wpAny (model prog w) A (pyIter xv) Q' E s₁) E s)
    (htest : (ifs = [] ∧ ∀ i, keep i = true) ∨ ∃ c, ifs = [c] ∧ ∀ (i : Nat) (v : Value), i < n → P i v → ∀ (C : Addr) (s₃ : Shared) (m₃ : Str → Option Value) (E' : Value → Shared → Prop), B₀ ≤ C → s₃.heap.Ns C m₃ → m₃ a = some v → K s₃.heap →
      wpAny (model prog w) A (isTrue c (compEnvC scope cl C env) (eval c (compEnvC scope cl C env))) (fun ok s₄ => ok = keep i ∧ ∃ h' tk, s₄ = { s₃ with heap := h', toks := tk } ∧ s₃.heap.StaysIn h') E' s₃)
    (hel : ∀ (i : Nat) (v : Value), i < n → P i v → keep i = true → ∀ (C : Addr) (s₃ : Shared) (m₃ : Str → Option Value) (E' : Value → Shared → Prop), B₀ ≤ C → s₃.heap.Ns C m₃ → m₃ a = some v → K s₃.heap →
      wpAny (model prog w) A (eval elt (compEnvC scope cl C env)) (fun r s₄ => ∃ h' tk, s₄ = { s₃ with heap := h', toks := tk } ∧ s₃.heap.StaysIn h' ∧ ItemIs V G i r s₃.heap h') E' s₃)
    (hQ : ∀ I C D h' tk m' ys c, B₀ ≤ I → I < D → D < C → h'.Ns C m' → K h' → h'.get? D = some (W.listOf (List.toArray ys) c) → MadeG V G (keptTo keep n) B₀ [I, D, C] h' ys → compPost (model prog w) A E use Q (.ref D) C (.ok .next) { s with heap := h', toks := tk })
    (hs : ∀ x, foldedSetIterable iter env x = pure x := by intro _; rfl) :
    wpAny (model prog w) A (comprehension (.ListComp elt [⟨.Name a pa, iter, ifs, 0⟩] scope pos) scope env cpos (newList []) false (eval iter env) use) Q E s := by
  have hifs : ifs = [] ∨ ∃ c, ifs = [c] := htest.imp And.left fun ⟨c, e, _⟩ => ⟨c, e⟩
  refine wpAny_comprehension_free (use := use) rfl hs hclos hkind hnames (hiter _ ?_)
  intro I H1 tk₁ fp St hI1 hI2 st1 hfp hIfp Wk hIs hS0
  refine wpAny_newObj_type (wpAny_newFunctionEnv hcell (by intro y hy; simp at hy) (fun h₁ hns₁ hsb₁ => ?_) hkind)
  dsimp only at hns₁ hsb₁ ⊢
  generalize hD : H1.objs.size = D at hns₁ hsb₁ ⊢
  generalize hH2 : H1.push { cls := .type "list", dict := none, data := .seq ([] : List Value).toArray } = H2 at hns₁ hsb₁ ⊢
  have hs2 : H2.objs.size = D + 1 := by rw [← hH2, Heap.size_push, hD]
  generalize hC : H2.objs.size = C at hns₁ hsb₁ ⊢
  have eC : C = D + 1 := hC.symm.trans hs2
  rw [hD] at hI2 hfp
  have hID : I < D := hI2
  have hDC : D < C := by rw [eC]; exact Nat.lt_succ_self _
  have hIC := Nat.lt_trans hID hDC
  have low : ∀ b, b < B₀ → b < I := fun b e => Nat.lt_of_lt_of_le e hI1
  have up : ∀ b o, H1.get? b = some o → h₁.get? b = some o := fun b o e => hsb₁.extBut b o (by
    have := Heap.lt_size e
    rw [hD] at this
    exact Nat.ne_of_lt (Nat.lt_trans this hDC)) (Heap.get?_push_of_some _ (hH2 ▸ Heap.get?_push_of_some _ e))
  have hD1 : h₁.get? D = some (W.listOf (List.toArray []) 0) := hsb₁.extBut _ _ (Nat.ne_of_lt hDC) (Heap.get?_push_of_some _ (hH2 ▸ hD ▸ Heap.get?_push_size _ rfl))
  have hS1 : St 0 h₁ := Wk.frame 0 H1 h₁ hS0 fun b _ o e => up b o e
  have loop : ∀ (R : Result → Shared → Prop), (∀ h' tk m' ys c, h'.Ns C m' → K h' → h'.get? D = some (W.listOf (List.toArray ys) c) → MadeG V G (keptTo keep n) B₀ [I, D, C] h' ys → R (.ok .next) { s with heap := h', toks := tk }) →
      codeAny (model prog w) A (.compLoop (.ListComp elt [⟨.Name a pa, iter, ifs, 0⟩] scope pos) 0 (.ref I) (.ref D) (compEnvC scope cl C env)) R { s with heap := h₁, toks := tk₁ + ([] : List (Str × Value)).length } := by
    intro R hR
    refine cg_loop (fun k s' => ∃ i h' tk m' ys c, s' = { s with heap := h', toks := tk } ∧ k = n - i ∧ i ≤ n ∧ St i h' ∧ h'.Ns C m' ∧ K h' ∧ h'.get? D = some (W.listOf (List.toArray ys) c) ∧ MadeG V G (keptTo keep i) B₀ [I, D, C] h' ys) hifs ?_ n
      ⟨0, h₁, _, _, [], 0, rfl, rfl, Nat.zero_le _, hS1, hns₁, hK _ _ st1 fun b o _ e => up b o e, hD1, rfl, fun j y i hj => by simp at hj⟩
    rintro k s' ⟨i, h', tk, m', ys, c, rfl, rfl, hi, hSt, hns, st, hDl, hM⟩
    have hyl := hM.1
    have hkl := keptTo_len keep i
    by_cases hlt : i < n
    · refine Wk.item i { s with heap := h', toks := tk } _ _ hlt hSt fun v h₂ tk₂ hP hS₂ hs₂ => ?_
      dsimp only
      have ne : ∀ b, b ≠ I → b ∉ [I] := fun b hb hm => hb (List.mem_singleton.mp hm)
      show wpAny _ _ (pure ()) _ _ _
      refine wpAny_pure ?_
      have st₂ : K h₂ := hK _ _ st fun b o hb e => hs₂ b o (ne b (Nat.ne_of_lt (low b hb))) e
      have hns₂ : h₂.Ns C m' := hns.at' fun o e => hs₂ _ o (ne _ (Nat.ne_of_gt hIC)) e
      have hD2 : h₂.get? D = some (W.listOf (List.toArray ys) c) := hs₂ _ _ (ne _ (Nat.ne_of_gt hID)) hDl
      have hM₂ : MadeG V G (keptTo keep i) B₀ [I, D, C] h₂ ys := hM.move (fun b o hb e => hs₂ b o (ne b fun q => hb (by simp [q])) e) fun b hb => hb
      refine wpAny_assign_Name (wpAny_storeName_local (m := m') (lookup_relabel_local ha) hns₂ (fun h₃ hns₃ hk₃ => ?_) (by simp [compEnvC, relabel, hkind]))
      have hk₃' : ∀ c o, c ≠ C → h₂.get? c = some o → h₃.get? c = some o := fun c o hc e => hk₃.extBut c o hc e
      have st₃ : K h₃ := hK _ _ st₂ fun b o hb e => hk₃' b o (Nat.ne_of_lt (Nat.lt_trans (low b hb) hIC)) e
      have hS₃ : St (i + 1) h₃ := Wk.frame (i + 1) h₂ h₃ hS₂ fun b hb o e => hk₃' b o (Nat.ne_of_lt (Nat.lt_trans (hfp b hb) hDC)) e
      have hD3 : h₃.get? D = some (W.listOf (List.toArray ys) c) := hk₃' _ _ (Nat.ne_of_lt hDC) hD2
      have hM₃ : MadeG V G (keptTo keep i) B₀ [I, D, C] h₃ ys := hM₂.move (fun b o hb e => hk₃' b o (fun q => hb (by simp [q])) e) fun b hb => hb
      have yes : keep i = true → ∀ (h₄ : Heap) (tk₄ : Nat), h₃.StaysIn h₄ → h₄.Ns C (fun z => if z = a then some v else m' z) →
          wpAny (model prog w) A (eval elt (compEnvC scope cl C env)) (fun x s₄ => wpAny (model prog w) A (call (.builtin "list.append") [.ref D, x]) (fun _ s₅ => ∃ m, m < n - i ∧ ∃ i h' tk m' ys c, s₅ = { s with heap := h', toks := tk } ∧ m = n - i ∧ i ≤ n ∧ St i h' ∧ h'.Ns C m' ∧ K h' ∧ h'.get? D = some (W.listOf (List.toArray ys) c) ∧ MadeG V G (keptTo keep i) B₀ [I, D, C] h' ys) (notedBy (model prog w) A (compEnvC scope cl C env) fun e s' => R (.error e) s') s₄) (notedBy (model prog w) A (compEnvC scope cl C env) fun e s' => R (.error e) s') { s with heap := h₄, toks := tk₄ } := by
        intro hke h₄ tk₄ st₄ hns₄
        have stb : K h₄ := hK _ _ st₃ fun b o _ e => st₄ b o e
        refine wpAny_mono (hel i v hlt hP hke C { s with heap := h₄, toks := tk₄ } _ _ (Nat.le_trans hI1 (Nat.le_of_lt hIC)) hns₄ (if_pos rfl) stb) (fun r s₅ hr => ?_) fun _ _ e => e
        obtain ⟨h₅, tk₅, rfl, st₅, hit⟩ := hr
        have hD4 := st₄ _ _ hD3
        have hD5 := st₅ _ _ hD4
        have hM₅ : MadeG V G (keptTo keep i) B₀ [I, D, C] h₅ ys := hM₃.move (fun b o hb e => st₅ b o (st₄ b o e)) fun b hb => hb
        refine append_at (s := { s with heap := h₅, toks := tk₅ }) hD5 (fun h₆ hs₆ ho₆ => ?_) (by rw [List.size_toArray]; have : sizeLine = 2 ^ 24 := rfl; omega)
        rw [List.push_toArray] at ho₆
        obtain ⟨oC, esC, epC, hoC, hrC⟩ := id hns₄
        have hM₆ : MadeG V G (keptTo keep i) B₀ [I, D, C] h₆ ys := hM₅.move (fun b o hb e => hs₆.extBut b o (fun q => hb (by simp [q])) e) fun b hb => hb
        refine ⟨n - (i + 1), by omega, i + 1, h₆, _, _, ys ++ [r], c + 1, rfl, rfl, hlt, ?_, ⟨oC, esC, epC, hs₆.extBut _ _ (Nat.ne_of_gt hDC) (st₅ _ _ hoC), hrC⟩, hK _ _ stb fun b o hb e => hs₆.extBut b o (Nat.ne_of_lt (Nat.lt_trans (low b hb) hID)) (st₅ b o e), ho₆, ?_⟩
        · exact Wk.frame (i + 1) h₃ h₆ hS₃ fun b hb o e => hs₆.extBut b o (Nat.ne_of_lt (hfp b hb)) (st₅ b o (st₄ b o e))
        · rw [keptTo_succ, hke, if_pos rfl]
          refine hM₆.snoc (hit.imp id ?_)
          rintro ⟨Pn, o, rfl, hp3, hp4, hG⟩
          have big : ∀ b ob, h₄.get? b = some ob → b < Pn := fun b ob e => Nat.lt_of_lt_of_le (Heap.lt_size e) hp3
          have hPD := big D _ hD4
          have hPC := big C _ hoC
          refine ⟨Pn, o, rfl, Nat.le_trans hI1 (Nat.le_of_lt (Nat.lt_trans hID hPD)), hs₆.extBut _ _ (Nat.ne_of_gt hPD) hp4, hG, ?_⟩
          simp only [List.mem_cons, List.not_mem_nil, or_false, not_or]
          exact ⟨Nat.ne_of_gt (Nat.lt_trans hID hPD), Nat.ne_of_gt hPD, Nat.ne_of_gt hPC⟩
      have no : keep i = false → ∀ (h₄ : Heap) (tk₄ : Nat), h₃.StaysIn h₄ → h₄.Ns C (fun z => if z = a then some v else m' z) → ∃ m, m < n - i ∧ ∃ i h' tk m' ys c, ({ s with heap := h₄, toks := tk₄ } : Shared) = { s with heap := h', toks := tk } ∧ m = n - i ∧ i ≤ n ∧ St i h' ∧ h'.Ns C m' ∧ K h' ∧ h'.get? D = some (W.listOf (List.toArray ys) c) ∧ MadeG V G (keptTo keep i) B₀ [I, D, C] h' ys := by
        intro hke h₄ tk₄ st₄ hns₄
        refine ⟨n - (i + 1), by omega, i + 1, h₄, tk₄, _, ys, c, rfl, rfl, hlt, Wk.frame (i + 1) h₃ h₄ hS₃ fun b hb o e => st₄ b o e, hns₄, hK _ _ st₃ fun b o _ e => st₄ b o e, st₄ _ _ hD3, ?_⟩
        rw [keptTo_succ, hke, if_neg (by decide)]
        exact hM₃.move (fun b o hb e => st₄ b o e) fun b hb => hb
      rcases htest with ⟨rfl, hall⟩ | ⟨c, rfl, ht⟩
      · exact yes (hall i) h₃ _ (fun _ _ e => e) hns₃
      · refine wpAny_mono (ht i v hlt hP C { s with heap := h₃, toks := tk₂ + 1 } _ _ (Nat.le_trans hI1 (Nat.le_of_lt hIC)) hns₃ (if_pos rfl) st₃) (fun ok s₄ hr => ?_) fun _ _ e => e
        obtain ⟨rfl, h₄, tk₄, rfl, st₄⟩ := hr
        have hns₄ : h₄.Ns C (fun z => if z = a then some v else m' z) := hns₃.at' fun o e => st₄ _ _ e
        cases hke : keep i with
        | true => rw [if_pos rfl]; exact yes hke h₄ tk₄ st₄ hns₄
        | false => rw [if_neg (by decide)]; exact no hke h₄ tk₄ st₄ hns₄
    · have hin : i = n := by omega
      subst hin
      refine Wk.done { s with heap := h', toks := tk } _ _ hSt fun h₂ tk₂ he₂ => ?_
      dsimp only
      have ne : ∀ b, b ≠ I → b ∉ [I] := fun b hb hm => hb (List.mem_singleton.mp hm)
      exact hR h₂ tk₂ m' ys c (hns.at' fun o e => he₂ _ o (ne _ (Nat.ne_of_gt hIC)) e) (hK _ _ st fun b o hb e => he₂ b o (ne b (Nat.ne_of_lt (low b hb))) e) (he₂ _ _ (ne _ (Nat.ne_of_gt hID)) hDl) (hM.move (fun b o hb e => he₂ b o (ne b fun q => hb (by simp [q])) e) fun b hb => hb)
  have fin : ∀ h' tk m' ys c, h'.Ns C m' → K h' → h'.get? D = some (W.listOf (List.toArray ys) c) → MadeG V G (keptTo keep n) B₀ [I, D, C] h' ys →
      compPost (model prog w) A E use Q (.ref D) C (.ok .next) { s with heap := h', toks := tk } := fun h' tk m' ys c hn st hDl hM => hQ I C D h' tk m' ys c hI1 hID hDC hn st hDl hM
  exact codeAny_compStart_list (loop _ fin) (Wk.self 0 { s with heap := h₁, toks := _ } _ _ hS1 (loop _ fin))
theorem comp_G {elt iter : PySem.Expr} {ifs : List PySem.Expr} {a : Str} {pa : Pos} {scope : Scope} {cl : List (Str × Addr)} {pos : Pos} {Q : Value → Shared → Prop} {n : Nat} {P : Nat → Value → Prop} {keep : Nat → Bool} {V : Nat → Value → Prop} {G : Nat → Obj → Prop} {B₀ : Nat} {K : Heap → Prop} (hK : ∀ h h' : Heap, K h → (∀ b o, b < B₀ → h.get? b = some o → h'.get? b = some o) → K h')
    (hclos : closureFor scope env = pure cl) (hcell : ∀ y ∈ scope.names, y.2 ≠ .cell) (hkind : scope.kind = .function)
    (hnames : ∀ y ∈ scope.names, y.2 = .local → scope.names.lookup y.1 = some .local) (ha : scope.names.lookup a = some .local) (hsz : n ≤ 1000000)
    (hiter : ∀ Q' : Value → Shared → Prop, (∀ I h₂ tk₂ fp St, B₀ ≤ I → I < h₂.objs.size → K h₂ → (∀ b ∈ fp, b < h₂.objs.size) → I ∈ fp → Walks prog w A I fp [I] n P St → (∀ i h, St i h → ∃ o, h.get? I = some o) → St 0 h₂ → Q' (.ref I) { s with heap := h₂, toks := tk₂ }) →
      wpAny (model prog w) A (eval iter env) (fun xv s₁ => wpAny (model prog w) A (pyIter xv) Q' E s₁) E s)
    (htest : (ifs = [] ∧ ∀ i, keep i = true) ∨ ∃ c, ifs = [c] ∧ ∀ (i : Nat) (v : Value), i < n → P i v → ∀ (C : Addr) (s₃ : Shared) (m₃ : Str → Option Value) (E' : Value → Shared → Prop), B₀ ≤ C → s₃.heap.Ns C m₃ → m₃ a = some v → K s₃.heap →
      wpAny (model prog w) A (isTrue c (compEnvC scope cl C env) (eval c (compEnvC scope cl C env))) (fun ok s₄ => ok = keep i ∧ ∃ h' tk, s₄ = { s₃ with heap := h', toks := tk } ∧ s₃.heap.StaysIn h') E' s₃)
    (hel : ∀ (i : Nat) (v : Value), i < n → P i v → keep i = true → ∀ (C : Addr) (s₃ : Shared) (m₃ : Str → Option Value) (E' : Value → Shared → Prop), B₀ ≤ C → s₃.heap.Ns C m₃ → m₃ a = some v → K s₃.heap →
      wpAny (model prog w) A (eval elt (compEnvC scope cl C env)) (fun r s₄ => ∃ h' tk, s₄ = { s₃ with heap := h', toks := tk } ∧ s₃.heap.StaysIn h' ∧ ItemIs V G i r s₃.heap h') E' s₃)
    (hQ : ∀ D h' tk ys c, B₀ ≤ D → K h' → h'.get? D = some (W.listOf (List.toArray ys) c) → MadeG V G (keptTo keep n) B₀ [D] h' ys → Q (.ref D) { s with heap := h', toks := tk })
    (hs : ∀ x, foldedSetIterable iter env x = pure x := by intro _; rfl) :
    wpAny (model prog w) A (eval (.ListComp elt [⟨.Name a pa, iter, ifs, 0⟩] scope pos) env) Q E s := by
  rw [eval_ListComp]
  refine comp_core (use := none) hK hclos hcell hkind hnames ha hsz hiter htest hel (fun I C D h' tk m' ys c hI1 hID hDC hn st hDl hM => ?_) hs
  have low : ∀ b, b < B₀ → b < I := fun b e => Nat.lt_of_lt_of_le e hI1
  have hIC := Nat.lt_trans hID hDC
  exact ⟨m', hn, fun h'' hs'' => hQ D h'' tk ys c (Nat.le_trans hI1 (Nat.le_of_lt hID)) (hK _ _ st fun b o hb e => hs''.extBut b o (Nat.ne_of_lt (Nat.lt_trans (low b hb) hIC)) e) (hs''.extBut _ _ (Nat.ne_of_lt hDC) hDl) (hM.move (fun b o hb e => hs''.extBut b o (fun q => hb (by simp [q])) e) fun b hb => by rw [List.mem_singleton.mp hb]; simp)⟩
theorem walks_imp {I : Addr} {fp wr : List Addr} {n : Nat} {P P' : Nat → Value → Prop} {St : Nat → Heap → Prop} (Wk : Walks prog w A I fp wr n P St) (h : ∀ i v, i < n → P i v → P' i v) : Walks prog w A I fp wr n P' St where
  sub := Wk.sub
  frame := Wk.frame
  item := fun i s Q E hi hS hQ => Wk.item i s Q E hi hS fun v h' tk hv => hQ v h' tk (h i v hi hv)
  done := Wk.done
  self := Wk.self
/-- what a list's iterator gives -/
theorem pyIter_walks {l : Addr} {vs : List Value} {P' : Nat → Value → Prop} {Q' : Value → Shared → Prop} (hh : A.handled = none) (hl : s.heap.IsList l vs.toArray) (hP : ∀ (i : Nat) (v : Value), vs[i]? = some v → P' i v)
    (k : ∀ I h₂ tk₂ fp St, s.heap.objs.size = I → I < h₂.objs.size → s.heap.StaysIn h₂ → (∀ b ∈ fp, b < h₂.objs.size) → I ∈ fp → Walks prog w A I fp [I] vs.length P' St → (∀ i h, St i h → ∃ o, h.get? I = some o) → St 0 h₂ → Q' (.ref I) { s with heap := h₂, toks := tk₂ }) :
    wpAny (model prog w) A (pyIter (.ref l)) Q' E s := by
  refine wpAny_pyIter_list hl ?_
  have hlt : l < s.heap.objs.size := let ⟨_, ho, _⟩ := hl; Heap.lt_size ho
  have Wk := Walks.list (prog := prog) (w := w) hh s.heap.objs.size l (Nat.ne_of_lt hlt) vs.toArray
  rw [List.size_toArray] at Wk
  refine k s.heap.objs.size _ s.toks [s.heap.objs.size, l] (fun i h => h.IsListIter s.heap.objs.size l i ∧ h.IsList l vs.toArray) rfl (by simp) (fun b o e => Heap.get?_push_of_some _ e) (fun b hb => ?_) (.head _) (walks_imp Wk fun i v _ hv => hP i v (by simpa using hv)) (fun i h e => let ⟨⟨o, ho, _⟩, _⟩ := e; ⟨o, ho⟩) ⟨⟨_, Heap.get?_push_size _ rfl, rfl, rfl⟩, hl.at fun o e => Heap.get?_push_of_some _ e⟩
  rcases List.mem_cons.mp hb with rfl | hb
  · simp
  · rw [List.mem_singleton.mp hb, Heap.size_push]; exact Nat.lt_succ_of_lt hlt
/-- what a range's iterator gives -/
theorem pyIter_ranges {r : Addr} {n : Nat} {t u v : Tok} {Q' : Value → Shared → Prop} (hh : A.handled = none) (hn : n < 2 ^ 60) (hr : IsRange s.heap r 0 n 1 t u v)
    (k : ∀ I h₂ tk₂ fp St, s.heap.objs.size = I → I < h₂.objs.size → s.heap.StaysIn h₂ → (∀ b ∈ fp, b < h₂.objs.size) → I ∈ fp → Walks prog w A I fp [I] n (fun i v => ∃ t, v = Value.int (i : Int) t) St → (∀ i h, St i h → ∃ o, h.get? I = some o) → St 0 h₂ → Q' (.ref I) { s with heap := h₂, toks := tk₂ }) :
    wpAny (model prog w) A (pyIter (.ref r)) Q' E s := by
  have hsm : Builtin.Range.small 0 n 1 = true := small_one (by omega) (by omega) (by omega) (by omega)
  have hsz : Builtin.Range.rangeSize 0 n 1 = n := by
    unfold Builtin.Range.rangeSize
    rw [if_pos (by decide)]
    split <;> omega
  refine wpAny_pyIter_range hr hsm ?_
  rw [hsz]
  have Wk := Walks.range (prog := prog) (w := w) hh s.heap.objs.size 0 1 n
  simp only [Int.mul_one, Int.zero_add] at Wk
  refine k s.heap.objs.size _ s.toks [s.heap.objs.size] _ rfl (by simp) (fun b o e => Heap.get?_push_of_some _ e) (fun b hb => by rw [List.mem_singleton.mp hb]; simp) (.head _) Wk (fun i h e => ⟨_, e⟩) ?_
  have := Heap.get?_push_size s.heap (o := { cls := .type "range_iterator", data := .fields #[rawInt 0, rawInt n, rawInt 1] }) rfl
  simpa [IsRangeIter] using this
end
/-- a bound above the frame and its ledger -/
noncomputable def topOf (L : Addr) (news : List (Addr × Obj)) : Nat := news.foldr (fun q b => max (q.1 + 1) b) (L + 1)
theorem topOf_L (L : Addr) (news : List (Addr × Obj)) : L < topOf L news := by
  induction news with
  | nil => exact Nat.lt_succ_self _
  | cons q r ih => exact Nat.lt_of_lt_of_le ih (Nat.le_max_right _ _)
theorem topOf_mem (L : Addr) {news : List (Addr × Obj)} : ∀ q ∈ news, q.1 < topOf L news := by
  induction news with
  | nil => intro q h; cases h
  | cons q r ih =>
    intro z hz
    rcases List.mem_cons.mp hz with rfl | hz
    · exact Nat.lt_of_lt_of_le (Nat.lt_succ_self _) (Nat.le_max_left _ _)
    · exact Nat.lt_of_lt_of_le (ih z hz) (Nat.le_max_right _ _)
theorem topOf_le {L n : Nat} (hL : L < n) {news : List (Addr × Obj)} (h : ∀ q ∈ news, q.1 < n) : topOf L news ≤ n := by
  induction news with
  | nil => exact hL
  | cons q r ih => exact Nat.max_le.mpr ⟨h q (.head _), ih fun z hz => h z (.tail _ hz)⟩
theorem topOf_size {h₀ h : Heap} {L : Addr} {m : Str → Option Value} {news : List (Addr × Obj)} (F : Fr h₀ L h m) (N : News h₀ L h news) : topOf L news ≤ h.objs.size := topOf_le F.ns.lt fun q hq => Heap.lt_size (N q hq).1
/-- what stands below the bound is the frame and its ledger -/
theorem frameKept {h₀ : Heap} {L : Addr} {m : Str → Option Value} {news : List (Addr × Obj)} : ∀ h h' : Heap, (Fr h₀ L h m ∧ News h₀ L h news) → (∀ b o, b < topOf L news → h.get? b = some o → h'.get? b = some o) → Fr h₀ L h' m ∧ News h₀ L h' news := fun h h' ⟨F, N⟩ k =>
  ⟨⟨F.ns.at' fun o e => k _ o (topOf_L L news) e, fun b o e => k b o (Nat.lt_of_lt_of_le (Heap.lt_size e) (Nat.le_trans F.above (Nat.le_of_lt (topOf_L L news)))) (F.keep b o e), F.above⟩, fun q hq => ⟨k _ _ (topOf_mem L q hq) (N q hq).1, (N q hq).2⟩⟩
section
variable {prog : Program} {w : World} {A : Around} {E : Value → Shared → Prop} {env : Env} {s : Shared}
/-- a comprehension that is stored under a name of the frame at once -/
theorem comp_A {elt iter : PySem.Expr} {ifs : List PySem.Expr} {a y : Str} {pa py : Pos} {scope : Scope} {cl : List (Str × Addr)} {pos spos : Pos} {Q : Flow → Shared → Prop} {n : Nat} {P : Nat → Value → Prop} {keep : Nat → Bool} {V : Nat → Value → Prop} {G : Nat → Obj → Prop} {h₀ : Heap} {L : Addr} {m : Str → Option Value} {news : List (Addr × Obj)}
    (hsw : swapsWith (.ListComp elt [⟨.Name a pa, iter, ifs, 0⟩] scope pos) (some (.Name y py)) spos.line env = pure true) (hLe : env.locals = L) (hy : env.kindOf y = some .local) (hp : (env.scope.kind == .class || (env.scope.kind == .module && env.locals != env.globals)) = false)
    (hclos : closureFor scope env = pure cl) (hcell : ∀ y ∈ scope.names, y.2 ≠ .cell) (hkind : scope.kind = .function)
    (hnames : ∀ y ∈ scope.names, y.2 = .local → scope.names.lookup y.1 = some .local) (ha : scope.names.lookup a = some .local) (hsz : n ≤ 1000000)
    (hiter : ∀ Q' : Value → Shared → Prop, (∀ I h₂ tk₂ fp St, topOf L news ≤ I → I < h₂.objs.size → (Fr h₀ L h₂ m ∧ News h₀ L h₂ news) → (∀ b ∈ fp, b < h₂.objs.size) → I ∈ fp → Walks prog w A I fp [I] n P St → (∀ i h, St i h → ∃ o, h.get? I = some o) → St 0 h₂ → Q' (.ref I) { s with heap := h₂, toks := tk₂ }) →
      wpAny (model prog w) A (eval iter env) (fun xv s₁ => wpAny (model prog w) A (pyIter xv) Q' E s₁) E s)
    (htest : (ifs = [] ∧ ∀ i, keep i = true) ∨ ∃ c, ifs = [c] ∧ ∀ (i : Nat) (v : Value), i < n → P i v → ∀ (C : Addr) (s₃ : Shared) (m₃ : Str → Option Value) (E' : Value → Shared → Prop), topOf L news ≤ C → s₃.heap.Ns C m₃ → m₃ a = some v → (Fr h₀ L s₃.heap m ∧ News h₀ L s₃.heap news) →
      wpAny (model prog w) A (isTrue c (compEnvC scope cl C env) (eval c (compEnvC scope cl C env))) (fun ok s₄ => ok = keep i ∧ ∃ h' tk, s₄ = { s₃ with heap := h', toks := tk } ∧ s₃.heap.StaysIn h') E' s₃)
    (hel : ∀ (i : Nat) (v : Value), i < n → P i v → keep i = true → ∀ (C : Addr) (s₃ : Shared) (m₃ : Str → Option Value) (E' : Value → Shared → Prop), topOf L news ≤ C → s₃.heap.Ns C m₃ → m₃ a = some v → (Fr h₀ L s₃.heap m ∧ News h₀ L s₃.heap news) →
      wpAny (model prog w) A (eval elt (compEnvC scope cl C env)) (fun r s₄ => ∃ h' tk, s₄ = { s₃ with heap := h', toks := tk } ∧ s₃.heap.StaysIn h' ∧ ItemIs V G i r s₃.heap h') E' s₃)
    (hQ : ∀ D h' tk ys c, topOf L news ≤ D → Fr h₀ L h' (fun z => if z = y then some (.ref D) else m z) → News h₀ L h' ((D, W.listOf (List.toArray ys) c) :: news) → MadeG V G (keptTo keep n) (topOf L news) [D] h' ys → Q .next { s with heap := h', toks := tk })
    (hs : ∀ x, foldedSetIterable iter env x = pure x := by intro _; rfl) :
    wpAny (model prog w) A (exec (.Assign [.Name y py] (.ListComp elt [⟨.Name a pa, iter, ifs, 0⟩] scope pos) spos) env) Q E s := by
  rw [exec_Assign_Name_used _ _ _ _ hsw]
  refine wpAny_bind (wpAny_standAt (wpAny_bind ?_))
  show wpAny _ A (do let _ ← comprehension (.ListComp elt [⟨.Name a pa, iter, ifs, 0⟩] scope pos) scope env _ (newList []) false (eval iter env) (some (assign (.Name y py) env))) _ _ s
  refine wpAny_bind (wpAny_mono (comp_core (use := some (assign (.Name y py) env)) (Q := fun _ s' => Q .next s') (K := fun h => Fr h₀ L h m ∧ News h₀ L h news) (B₀ := topOf L news) frameKept hclos hcell hkind hnames ha hsz hiter htest hel (fun I C D h' tk m' ys c hI1 hID hDC hn st hDl hM => ?_) hs)
    (fun _ s' hq => wpAny_pure (wpAny_pure hq)) fun _ _ e => e)
  have hIC := Nat.lt_trans hID hDC
  have hLI : L < I := Nat.lt_of_lt_of_le (topOf_L L news) hI1
  have hLD := Nat.lt_trans hLI hID
  have hLC := Nat.lt_trans hLI hIC
  have hnI : ∀ q ∈ news, q.1 < I := fun q hq => Nat.lt_of_lt_of_le (topOf_mem L q hq) hI1
  obtain ⟨F, N⟩ := st
  show wpAny (model prog w) A (assign (.Name y py) env (.ref D)) _ E _
  refine wpAny_assign_Name (wpAny_storeName_local hy (by rw [hLe]; exact F.ns) (fun h₂ hn₂ hs₂ => ?_) hp)
  rw [hLe] at hn₂ hs₂
  refine ⟨m', hn.sameBut hs₂ (Nat.ne_of_gt hLC), fun h₃ hs₃ => ?_⟩
  have keep : ∀ b o, b ≠ L → b ≠ C → h'.get? b = some o → h₃.get? b = some o := fun b o h1 h2 e => hs₃.extBut b o h2 (hs₂.extBut b o h1 e)
  have h0L : ∀ b o, h₀.get? b = some o → b ≠ L ∧ b ≠ C := fun b o e => ⟨Nat.ne_of_lt (Nat.lt_of_lt_of_le (Heap.lt_size e) F.above), Nat.ne_of_lt (Nat.lt_of_lt_of_le (Nat.lt_of_lt_of_le (Heap.lt_size e) F.above) (Nat.le_of_lt hLC))⟩
  refine hQ D h₃ _ ys c (Nat.le_trans hI1 (Nat.le_of_lt hID)) ⟨hn₂.sameBut hs₃ (Nat.ne_of_lt hLC), fun b o e => keep b o (h0L b o e).1 (h0L b o e).2 (F.keep b o e), F.above⟩ (fun q hq => ?_) ⟨hM.1, fun j z i hj hi => (hM.2 j z i hj hi).imp id fun ⟨P, o, a, b, c, d, e⟩ => ?_⟩
  · rcases List.mem_cons.mp hq with rfl | hq
    · exact ⟨keep _ _ (Nat.ne_of_gt hLD) (Nat.ne_of_lt hDC) hDl, Nat.ne_of_gt hLD, Heap.get?_none_of_le (Nat.le_trans F.above (Nat.le_of_lt hLD))⟩
    · exact ⟨keep _ _ (N q hq).2.1 (Nat.ne_of_lt (Nat.lt_trans (hnI q hq) hIC)) (N q hq).1, (N q hq).2⟩
  · simp only [List.mem_cons, List.not_mem_nil, or_false, not_or] at e
    exact ⟨P, o, a, b, keep P o (Nat.ne_of_gt (Nat.lt_of_lt_of_le (topOf_L L news) b)) e.2.2 c, d, by simp [e.2.1]⟩
end
end Mine
end -- C4
section -- C1
open PySem PySem.W PyProof.Rows PySem.Calls PySem.Spec
namespace Mine
section
variable {prog : Program} {w : World} {A : Around} {E : Value → Shared → Prop} {s' : Shared} {base h : Heap} {outer : List Env} {L a e : Addr} {m : Str → Option Value} {name : Str} {scope : Scope} {cd : Value}
  {n : Str} {b₀ : Stmt} {suite : List Stmt} {pos np : Pos} {rest : List ExceptHandler} {Q : Flow → Shared → Prop} {news : List (Addr × Obj)}
  {p : Program} {loose : List Str} {mean : ExcName → Option Value} {mg mb : Str → Option Value} {x : Str} {Er : Heap → Prop}
end
end Mine
end -- C1
section -- S2
open PySem PySem.W PyProof.Rows PySem.Calls PySem.Spec
namespace Mine
section
variable {prog : Program} {w : World} {A : Around} {E : Value → Shared → Prop} {s : Shared}
theorem entry_unchain : entryFor table "proto.unchain" = some Builtin.«proto.unchain» := entryFor_of_fast (by kernel_rfl)
theorem unchain_none {e e' : Addr} {oe : Obj} {vs : Array Value} {Q : Value → Shared → Prop} (he : s.heap.get? e = some oe) (hd : oe.data = .fields vs) (h2 : vs[2]? = some .none)
    (h : Q .none s) : wpAny (model prog w) A (runValue (.builtin "proto.unchain" ⟨[.ref e', .ref e, .ref e, .bool false], []⟩)) Q E s := by
  refine wpAny_runValue (codeAny_builtin entry_unchain ?_)
  show wpAny _ _ (field (.ref e) 2 >>= _) _ _ s
  refine wpAny_bind (wpAny_field he hd h2 ?_)
  rw [if_pos (by rfl)]
  exact wpAny_pure h
theorem raiseNewH {α : Type} {e n : Addr} {oe on : Obj} {vs ns : Array Value} {Q : α → Shared → Prop} (hh : A.handled = some (.ref e)) (he : s.heap.get? e = some oe) (hd : oe.data = .fields vs) (h2 : vs[2]? = some .none)
    (hn : s.heap.get? n = some on) (hnd : on.data = .fields ns) (hsz : 2 < ns.size) (hne : e ≠ n)
    (h : E (.ref n) { s with heap := s.heap.update n (Obj.mapFields (·.setIfInBounds 2 (.ref e))) }) : wpAny (model prog w) A (raiseNew (α := α) (.ref n)) Q E s := by
  unfold raiseNew
  refine wpAny_bind (wpAny_handled ?_)
  rw [hh]
  show wpAny _ _ (if (Value.ref e != Value.ref n) = true then _ else _) _ _ s
  rw [if_pos (by simp only [bne_iff_ne, ne_eq, Value.ref.injEq]; exact hne)]
  refine wpAny_bind (wpAny_holding (unchain_none he hd h2 ?_))
  unfold updateField
  refine wpAny_bind (wpAny_bind (wpAny_load hn ?_))
  rw [hnd]
  show wpAny _ _ (if 2 < ns.size then _ else _) _ _ s
  rw [if_pos hsz]
  exact wpAny_update hn (wpAny_throw h)
theorem next_tuple_endH {it t e : Addr} {i : Nat} {items} {oe : Obj} {vs : Array Value} {Q : Option Value → Shared → Prop} (hh : A.handled = some (.ref e)) (he : s.heap.get? e = some oe) (hd' : oe.data = .fields vs) (h2 : vs[2]? = some .none) (hne : e ≠ it)
    (hit : IsTupIter s.heap it t i) (ht : IsTup s.heap t items) (hx : items[i]? = none)
    (hQ : ∀ h', Heap.ExtBut it s.heap h' → Q none { s with heap := h' }) : wpAny (model prog w) A (pyNext (.ref it)) Q E s := by
  obtain ⟨o, ho, hc, hd⟩ := id hit
  obtain ⟨ol, hol, _, nl, hdl⟩ := ht
  unfold pyNext
  refine wpAny_bind (wpAny_attempt (wpAny_callSpecial?_slot (name := Str.ofString "__next__") hit.typeIs slot_tupleiter_next
    (wpAny_call_entry slot_tupleiter_next hit.typeIs entry_tupleiter_next ?_ (args_tupleiter_next _))))
  show wpAny _ _ (field (.ref it) 0 >>= _) _ _ s
  refine wpAny_bind (wpAny_field ho hd (x := .ref t) rfl ?_)
  show wpAny _ _ (if (Value.ref t == Value.none) = true then _ else _) _ _ s
  rw [if_neg (show ¬ ((Value.ref t == Value.none) = true) from Bool.false_ne_true)]
  show wpAny _ _ (field (.ref it) 1 >>= _) _ _ s
  refine wpAny_bind (wpAny_field ho hd (x := .int i 0) rfl ?_)
  show wpAny _ _ (seqItems? (.ref t) >>= _) _ _ s
  refine wpAny_bind (wpAny_seqItems hol hdl ?_)
  simp only [Int.toNat_natCast, hx]
  refine wpAny_bind (wpAny_rule (wpAny_bind (wpAny_setField ho hd (by simp) ?_)))
  show wpAny _ _ (newExc (.type "StopIteration") [] >>= _) _ _ _
  refine wpAny_bind ?_
  simp only [newExc, newTuple]
  refine wpAny_bind (wpAny_newObj_type ?_ (by size_fits))
  refine wpAny_bind (m := firstArgMember _ _) (wpAny_of_eq (a := Value.none) (by first | rfl | (simp only [firstArgMember]; rfl)) ?_)
  refine wpAny_newObj_type ?_ (by size_fits)
  have he₁ := (Heap.get?_update_other s.heap (Obj.mapFields (·.setIfInBounds 0 Value.none)) (Ne.symm hne)).trans he
  have hlt := Heap.lt_size he₁
  have hn₁ := Heap.get?_push_size ((s.heap.update it (Obj.mapFields fun x => x.setIfInBounds 0 Value.none)).push { cls := Value.type "tuple", data := Data.seq #[] }) (o := { cls := Value.type "StopIteration", data := Data.fields (#[Value.ref (s.heap.update it (Obj.mapFields fun x => x.setIfInBounds 0 Value.none)).objs.size, Value.none, Value.none, Value.none, Value.bool false, Value.none] ++ ownMembersOf (Value.type "StopIteration") []) }) rfl
  refine raiseNewH hh (Heap.get?_push_of_some _ (Heap.get?_push_of_some _ he₁)) hd' h2 hn₁ rfl (by simp; omega) (Nat.ne_of_lt (Nat.lt_trans hlt (by rw [Heap.size_push]; exact Nat.lt_succ_self _))) ?_
  refine wpAny_bind (wpAny_isInstance (T := "StopIteration") (b := true) ⟨_, Heap.get?_update_self _ hn₁ rfl, rfl⟩ isSubtype_stop ?_)
  refine wpAny_pure (hQ _ fun b o hb e => ?_)
  have q := Heap.get?_push_of_some { cls := Value.type "StopIteration", data := Data.fields (#[Value.ref (s.heap.update it (Obj.mapFields fun x => x.setIfInBounds 0 Value.none)).objs.size, Value.none, Value.none, Value.none, Value.bool false, Value.none] ++ ownMembersOf (Value.type "StopIteration") []) }
    (Heap.get?_push_of_some { cls := Value.type "tuple", data := Data.seq #[] } ((Heap.get?_update_other s.heap (Obj.mapFields (·.setIfInBounds 0 Value.none)) (Ne.symm hb)).trans e))
  have hb' := Heap.lt_size ((Heap.get?_update_other s.heap (Obj.mapFields (·.setIfInBounds 0 Value.none)) (Ne.symm hb)).trans e)
  exact (Heap.get?_update_other _ _ (Ne.symm (Nat.ne_of_lt (Nat.lt_trans hb' (by rw [Heap.size_push]; exact Nat.lt_succ_self _))))).trans q
theorem unpackItems_tupleH {t e : Addr} {items : Array Value} {oe : Obj} {vs : Array Value} {Q : List Value → Shared → Prop} (hh : A.handled = some (.ref e)) (he : s.heap.get? e = some oe) (hd' : oe.data = .fields vs) (h2 : vs[2]? = some .none) (ht : IsTup s.heap t items)
    (hQ : ∀ h', Heap.ExtBut s.heap.objs.size s.heap h' → Q items.toList { s with heap := h' }) : wpAny (model prog w) A (unpackItems (.ref t) items.size none) Q E s := by
  have hlt : t ≠ s.heap.objs.size := by obtain ⟨o, ho, _⟩ := ht; exact Nat.ne_of_lt (Heap.lt_size ho)
  unfold unpackItems
  refine wpAny_bind ?_
  · unfold notIterableAtAll
    refine wpAny_bind (wpAny_specialOf ht.typeIs slot_tuple_iter.lookup ?_)
    refine wpAny_pure ?_
    simp only [Bool.false_eq_true, if_false]
    refine wpAny_bind (wpAny_holding (iter_tuple ht ?_))
    refine wpAny_bind (wpAny_holding (draw_tuple hlt items.size 0 _ _ ⟨_, Heap.get?_push_size _ rfl, rfl, rfl⟩ (ht.push _) (by omega) fun h₁ hit₁ hs₁ => ?_))
    have hall : List.take items.size (List.drop 0 items.toList) = items.toList := by
      rw [List.drop_zero]; exact List.take_of_length_le (by simp)
    rw [hall]
    rw [if_neg (by simp)]
    have ht₁ : IsTup h₁ t items := (ht.push _).extBut hs₁.extBut hlt
    have hel := Nat.ne_of_lt (Heap.lt_size he)
    refine wpAny_bind (wpAny_holding (next_tuple_endH hh (hs₁.extBut e oe hel (Heap.get?_push_of_some _ he)) hd' h2 hel hit₁ ht₁ (by simp) fun h₂ he₂ => ?_))
    simp only [Option.isSome_none, Bool.false_eq_true, if_false]
    refine wpAny_pure (hQ h₂ fun b o hb e => he₂ b o hb (hs₁.extBut b o hb (Heap.get?_push_of_some _ e)))
theorem unpackItemsH_ {h₀ : Heap} {L : Addr} {m : Str → Option Value} {news : List (Addr × Obj)} {t e : Addr} {items : Array Value} {n : Nat} {oe : Obj} {vs : Array Value} {Q : List Value → Shared → Prop} (F : Fr h₀ L s.heap m) (N : News h₀ L s.heap news) (ht : IsTup s.heap t items)
    (hh : A.handled = some (.ref e)) (he : (e, oe) ∈ news) (hd' : oe.data = .fields vs) (h2 : vs[2]? = some .none) (hn : n = items.size) (h : ∀ h', Fr h₀ L h' m → News h₀ L h' news → Q items.toList { s with heap := h' }) : wpAny (model prog w) A (unpackItems (.ref t) n none) Q E s := by
  subst hn
  exact unpackItems_tupleH hh (N _ he).1 hd' h2 ht fun h' he => h h' (F.extBut he (Nat.le_refl _)) (N.extBut he (Nat.le_refl _))
end
end Mine
end -- S2
section -- E1
open PySem PySem.W PyProof.Rows PySem.Calls PySem.Spec
namespace Mine
/-! the parts of the text, by their places -/
noncomputable def stBody : Stmt → List Stmt
  | .FunctionDef _ _ b _ _ _ _ _ _ _ => b
  | _ => []
noncomputable def stArgs : Stmt → Arguments
  | .FunctionDef _ a _ _ _ _ _ _ _ _ => a
  | _ => ⟨[], [], none, [], [], none, []⟩
noncomputable def stScope : Stmt → Scope
  | .FunctionDef _ _ _ _ _ _ s _ _ _ => s
  | _ => default
noncomputable def nth (l : List Stmt) : Nat → Stmt
  | 0 => (match l with | a :: _ => a | [] => .Pass ⟨0, 0, 0, 0⟩)
  | n + 1 => (match l with | _ :: r => nth r n | [] => .Pass ⟨0, 0, 0, 0⟩)
noncomputable def favStmt : Stmt := nth PySem.Challenge.pw_dw0016_02.main.body 1
noncomputable def convStmt : Stmt := nth (stBody favStmt) 0
noncomputable def convQual : Str := "formatargvalues.<locals>.convert"
/-- the table of formatargvalues' codes has convert's -/
noncomputable def Hit (h : Heap) : Prop := ∃ c', h.get? 38 = some (tabObj #[rawInt 7, rawInt 4, .ref c']) ∧ h.CodeRec (.ref c') convQual
theorem Hit.hide {h base : Heap} {l : List Env} (x : Hit h) (ff : h.FunFrames base l) : Hit (hideAll h (frs l)) := by
  obtain ⟨c', a, c, o, vs, t, e, ho, hd, r⟩ := x
  have nf : ∀ {b o vs}, h.get? b = some o → o.data = .fields vs → b ∉ frs l := fun {b o vs} e hd m => by
    obtain ⟨_, o', ho', hn⟩ := ff.mem m
    rw [e] at ho'; cases ho'; exact hn _ hd
  exact ⟨c', hideAll_get _ a (nf a rfl), c, o, vs, t, e, hideAll_get _ ho (nf ho hd), hd, r⟩
theorem Hit.keeps {h h' : Heap} (x : Hit h) (k : h.StaysIn h') : Hit h' := let ⟨c', a, b⟩ := x; ⟨c', k _ _ a, b.keeps k⟩
noncomputable abbrev convObj (pm : Value) (t : Addr) (doc : Value) (c' : Addr) (ctv : Value) : Obj := kdv_obj (Str.ofString "convert") convQual (stArgs convStmt) (.stmts (stBody convStmt)) (stScope convStmt) [] (.ref t) doc pm c' ctv
section
variable {M : Model} {A : Around} {E : Value → Shared → Prop} {s : Shared} {h₀ : Heap} {L a c P : Addr} {m mg mb : Str → Option Value} {cn : Str} {cs : Scope} {ccd : Value} {cl : List (Str × Addr)} {news : List (Addr × Obj)}
  {p : Program} {loose : List Str} {mean : ExcName → Option Value} {name qual : Str} {params : Arguments} {body : FuncBody} {scope : Scope} {ps : Array Value} {pos : Pos} {firstLine : Nat} {clos : List (Str × Addr)}
end
structure Base1 (w : World) (base : Heap) (p : Program) (loose : List Str) (mean : ExcName → Option Value) (mg mb : Str → Option Value) : Prop where
  K : (hd2.heap_39 w.params).In base
  T : Top p loose mean mg mb base
  C : CodeHd base 42 38
  none38 : base.get? 38 = none
/-- values that are these texts -/
noncomputable def StrsAre (vs : List Value) (xs : List Str) : Prop := vs.length = xs.length ∧ ∀ (i : Nat) (x : Str), xs[i]? = some x → ∃ t, vs[i]? = some (Value.str x t)
theorem StrsAre.nil : StrsAre [] [] := ⟨rfl, fun i x h => by simp at h⟩
theorem StrsAre.snoc {vs : List Value} {xs : List Str} (h : StrsAre vs xs) (x : Str) (t : Tok) : StrsAre (vs ++ [Value.str x t]) (xs ++ [x]) := by
  refine ⟨by simp [h.1], fun i y hy => ?_⟩
  by_cases hi : i < xs.length
  · rw [List.getElem?_append_left hi] at hy
    obtain ⟨t', e⟩ := h.2 i y hy
    exact ⟨t', by rw [List.getElem?_append_left (by rw [h.1]; exact hi)]; exact e⟩
  · rw [List.getElem?_append_right (Nat.le_of_not_lt hi)] at hy
    have : i - xs.length = 0 := by
      by_cases q : i - xs.length = 0
      · exact q
      · rw [List.getElem?_eq_none (by simp; omega)] at hy; cases hy
    rw [this] at hy
    have e : i = vs.length := by rw [h.1]; omega
    subst e
    have : x = y := by simpa using hy
    subst this
    exact ⟨t, by simp⟩
theorem take_split {α : Type} {l : List α} {i : Nat} (hi : i < l.length) : l = l.take i ++ l[i] :: l.drop (i + 1) := by
  rw [← List.drop_eq_getElem_cons hi, List.take_append_drop]
theorem take_snoc {α : Type} {l : List α} {i : Nat} (hi : i < l.length) : l.take (i + 1) = l.take i ++ [l[i]] := by
  rw [List.take_add_one, List.getElem?_eq_getElem hi]; rfl
/-- a variadic name, or none -/
noncomputable def VarIs (v : Value) (o : Option Str) : Prop := (o = none ∧ (v = .none ∨ ∃ t, v = Value.str (Str.ofString "") t)) ∨ ∃ x t, o = some x ∧ v = Value.str x t ∧ 0 < x.length ∧ x.length ≤ 100
end Mine
end -- E1
section -- E2
open PySem PySem.W PyProof.Rows PySem.Calls PySem.Spec
set_option maxHeartbeats 8000000
namespace Mine
variable {w : World} {base : Heap} {p : Program} {loose : List Str} {mean : ExcName → Option Value} {mg mb : Str → Option Value}
theorem lam35 (bs : Base1 w base p loose mean mg mb) {i : Int} {ti : Tok} (hi : -(2 ^ 100) < i ∧ i < 2 ^ 100) :
    Calls PySem.Challenge.pw_dw0016_02 w base [] 1 10 (fun _ => True) (.ref 35) [.int i ti] [] (fun r _ => ∃ tk, r = Value.str (Str.ofString "=" ++ Str.ofString (toString i)) tk) (fun _ _ => False) := by
  refine' calls_KE (K := hd2.heap_39 w.params) (binds := [(Str.ofString "value", .int i ti)]) ?hS bs.T.nolimit bs.K (by omega) ?ho ?hcd ?hbind ?hloc ?body ?hcell ?hco ?hgen ?hk
  case ho => k_is
  case hcd => k_is
  case hS => intro b hb; cases hb
  case hbind => exact rfl
  case hloc => exact locs rfl
  case hcell => decide
  case hco => exact rfl
  case hgen => exact rfl
  case hk => exact rfl
  intro A fr s L h₁ hA hpre hh hroom hu ff hSf stg B F st₁ hL
  have X := bs.K.keeps stg
  have T := bs.T.keeps stg
  have N : News (hideAll s.heap []) L h₁ [] := News.nil
  k_steps
  exact Out.mk F.keep ⟨_, rfl⟩
end Mine
end -- E2
section -- E3
open PySem PySem.W PyProof.Rows PySem.Calls PySem.Spec
namespace Mine
/-! law 02: the table and the log that turn, and what telling a name does to them -/
inductive Rel2 {α β : Type} (P : α → β → Prop) : List α → List β → Prop
  | nil : Rel2 P [] []
  | cons {a b as bs} : P a b → Rel2 P as bs → Rel2 P (a :: as) (b :: bs)
theorem Rel2.snoc {α β : Type} {P : α → β → Prop} {as : List α} {bs : List β} {a : α} {b : β} (h : Rel2 P as bs) (p : P a b) : Rel2 P (as ++ [a]) (bs ++ [b]) := by
  induction h with
  | nil => exact .cons p .nil
  | cons q _ ih => exact .cons q ih
theorem Rel2.length {α β : Type} {P : α → β → Prop} {as : List α} {bs : List β} (h : Rel2 P as bs) : as.length = bs.length := by
  induction h with
  | nil => rfl
  | cons _ _ ih => simp [ih]
noncomputable abbrev Res := Except (List Str × Str) (List Str)
noncomputable def foldV (v : Str → List Str → Res) : List Str → List Str → Res
  | [], x => .ok x
  | n :: l, x => match v n x with
    | .ok x' => foldV v l x'
    | .error e => .error e
theorem foldV_append (v : Str → List Str → Res) : ∀ a b x, foldV v (a ++ b) x = match foldV v a x with
    | .ok x' => foldV v b x'
    | .error e => .error e
  | [], b, x => rfl
  | n :: a, b, x => by
    simp only [List.cons_append, foldV]
    cases v n x with
    | error e => rfl
    | ok x' => exact foldV_append v a b x'
theorem foldV_one {v : Str → List Str → Res} {n : Str} {x : List Str} : foldV v [n] x = v n x := by
  simp only [foldV]
  cases v n x <;> rfl
theorem foldV_snoc {v : Str → List Str → Res} {a : List Str} {n : Str} {x x' : List Str} (h : foldV v a x = .ok x') : foldV v (a ++ [n]) x = v n x' := by
  rw [foldV_append, h]; exact foldV_one
theorem foldV_err {v : Str → List Str → Res} {a b : List Str} {n : Str} {x x' : List Str} {e : List Str × Str} (h : foldV v a x = .ok x') (hn : v n x' = .error e) : foldV v (a ++ n :: b) x = .error e := by
  rw [foldV_append, h]; simp only [foldV, hn]
/-- telling a name and then asking the table for it -/
noncomputable def asks (cl : Str → List Str → Res) (n : Str) (x : List Str) : Res := match cl n x with
  | .error e => .error e
  | .ok x' => if n ∈ x' then .ok x' else .error (x', n)
/-- a cell's name -/
noncomputable def cname (k : Nat) : Str := Str.ofString "c" ++ Str.ofString (toString (k : Int))
noncomputable def cellNames : List Str := (List.range 66).map cname
noncomputable def KvRel (D : Str → Int) : List (Str × Value) → List Str → Prop := Rel2 fun kv n => kv.1 = n ∧ ∃ t, kv.2 = Value.int (D n) t
theorem KvRel.keys {D : Str → Int} {kvs : List (Str × Value)} {x : List Str} (h : KvRel D kvs x) : kvs.map (·.1) = x := by
  induction h with
  | nil => rfl
  | cons p _ ih => simp [p.1, ih]
theorem KvRel.at {D : Str → Int} {kvs : List (Str × Value)} {x : List Str} (h : KvRel D kvs x) (n : Str) : (n ∈ x → ∃ t, valueAt kvs n = some (Value.int (D n) t)) ∧ (n ∉ x → valueAt kvs n = none) := by
  induction h with
  | nil => exact ⟨fun h => (nomatch h), fun _ => rfl⟩
  | @cons kv n' kvs x p _ ih =>
    obtain ⟨k, v⟩ := kv
    obtain ⟨p1, t, p2⟩ := p
    dsimp only at p1 p2
    subst p1 p2
    by_cases e : k = n
    · subst e
      refine ⟨fun _ => ⟨t, by simp [valueAt]⟩, fun h => absurd (List.Mem.head _) h⟩
    · have q : valueAt ((k, Value.int (D k) t) :: kvs) n = valueAt kvs n := by simp [valueAt, e]
      rw [q]
      refine ⟨fun h => ih.1 ?_, fun h => ih.2 fun hm => h (.tail _ hm)⟩
      rcases List.mem_cons.mp h with h | h
      · exact absurd h.symm e
      · exact h
/-- the table's pairs: the names worked out, each once, each a cell's, with their numbers -/
structure KvInts (D : Str → Int) (kvs : List (Str × Value)) (x : List Str) : Prop where
  rel : KvRel D kvs x
  nd : x.Nodup
  sub : ∀ y ∈ x, y ∈ cellNames
theorem KvInts.keys {D : Str → Int} {kvs : List (Str × Value)} {x : List Str} (h : KvInts D kvs x) : kvs.map (·.1) = x := h.rel.keys
theorem KvInts.at {D : Str → Int} {kvs : List (Str × Value)} {x : List Str} (h : KvInts D kvs x) (n : Str) : (n ∈ x → ∃ t, valueAt kvs n = some (Value.int (D n) t)) ∧ (n ∉ x → valueAt kvs n = none) := h.rel.at n
theorem KvInts.nil (D : Str → Int) : KvInts D [] [] := ⟨.nil, .nil, fun _ h => nomatch h⟩
theorem KvInts.few {D : Str → Int} {kvs : List (Str × Value)} {x : List Str} (h : KvInts D kvs x) : kvs.length = x.length ∧ x.length ≤ 66 := by
  refine ⟨h.rel.length, ?_⟩
  have := h.nd.length_le_of_subset h.sub
  simpa [cellNames] using this
theorem KvInts.snoc {D : Str → Int} {kvs : List (Str × Value)} {x : List Str} {n : Str} {t : Tok} (h : KvInts D kvs x) (hn : n ∉ x) (hc : n ∈ cellNames) : KvInts D (kvs ++ [(n, Value.int (D n) t)]) (x ++ [n]) :=
  ⟨h.rel.snoc ⟨rfl, t, rfl⟩, by
    rw [List.nodup_append]
    refine ⟨h.nd, by simp, fun a ha b hb e => hn ?_⟩
    rw [← List.mem_singleton.mp hb, ← e]; exact ha, fun y hy => (List.mem_append.mp hy).elim (h.sub y) fun q => (List.mem_singleton.mp q) ▸ hc⟩
/-- a table of codes: still empty, or with the one code -/
noncomputable def CodeT (P : Addr) (a b : Int) (qual : Str) (h : Heap) : Prop := h.get? P = some (tabObj #[]) ∨ ∃ c', h.get? P = some (tabObj #[rawInt a, rawInt b, .ref c']) ∧ h.CodeRec (.ref c') qual
theorem codeRec_ne {h : Heap} {c P : Addr} {q : Str} {ps : Array Value} (hr : h.CodeRec (.ref c) q) (hP : h.get? P = some (tabObj ps)) (h1 : ∀ x t, ps[1]? ≠ some (Value.str x t)) : c ≠ P := fun e => by
  obtain ⟨c2, o, vs, t, e1, e2, e3, e4⟩ := hr
  cases e1
  rw [e, hP] at e2
  cases e2
  have : vs = ps := by cases e3; rfl
  rw [this] at e4
  exact h1 _ _ e4
theorem tab1 {a b : Int} {c : Addr} (x : Str) (t : Tok) : (#[rawInt a, rawInt b, Value.ref c] : Array Value)[1]? ≠ some (Value.str x t) := by simp [rawInt]
theorem tab0 (x : Str) (t : Tok) : (#[] : Array Value)[1]? ≠ some (Value.str x t) := by simp
theorem CodeT.tab {P : Addr} {a b : Int} {q : Str} {h : Heap} (H : CodeT P a b q h) : ∃ ps, h.get? P = some (tabObj ps) ∧ ∀ x t, ps[1]? ≠ some (Value.str x t) := by
  rcases H with e | ⟨c, e, _⟩
  · exact ⟨_, e, tab0⟩
  · exact ⟨_, e, tab1⟩
theorem CodeT.keeps {P : Addr} {a b : Int} {q : Str} {h h' : Heap} (H : CodeT P a b q h) (k : h.StaysIn h') : CodeT P a b q h' := by
  rcases H with e | ⟨c, e, r⟩
  · exact .inl (k _ _ e)
  · exact .inr ⟨c, k _ _ e, r.keeps k⟩
/-- all but S is kept, and no code record lies in S -/
theorem codeRec_but {S : List Addr} {h h' : Heap} {c : Addr} {q : Str} (r : h.CodeRec (.ref c) q) (k : KeepBut S h h') (hc : c ∉ S) : h'.CodeRec (.ref c) q := by
  obtain ⟨c2, o, vs, t, e1, e2, e3, e4⟩ := r
  cases e1
  exact ⟨c, o, vs, t, rfl, k _ _ hc e2, e3, e4⟩
theorem CodeT.but {P : Addr} {a b : Int} {q : Str} {S : List Addr} {h h' : Heap} (H : CodeT P a b q h) (k : KeepBut S h h') (hP : P ∉ S) (hc : ∀ c, h.CodeRec (.ref c) q → c ∉ S) : CodeT P a b q h' := by
  rcases H with e | ⟨c, e, r⟩
  · exact .inl (k _ _ hP e)
  · exact .inr ⟨c, k _ _ hP e, codeRec_but r k (hc c r)⟩
theorem CodeT.hide {P : Addr} {a b : Int} {q : Str} {h base : Heap} {l : List Env} (H : CodeT P a b q h) (ff : h.FunFrames base l) : CodeT P a b q (hideAll h (frs l)) := by
  have nf : ∀ {b o vs}, h.get? b = some o → o.data = .fields vs → b ∉ frs l := fun {b o vs} e hd m => by
    obtain ⟨_, o', ho', hn⟩ := ff.mem m
    rw [e] at ho'; cases ho'; exact hn _ hd
  rcases H with e | ⟨c, e, c2, o, vs, t, e1, e2, e3, e4⟩
  · exact .inl (hideAll_get _ e (nf e rfl))
  · exact .inr ⟨c, hideAll_get _ e (nf e rfl), c2, o, vs, t, e1, hideAll_get _ e2 (nf e2 e3), e3, e4⟩
noncomputable def IsRec (o : Obj) : Prop := ∃ q fv t, o.data = .fields fv ∧ fv[1]? = some (Value.str q t)
theorem IsRec.fields {o : Obj} (h : IsRec o) : ∃ vs, o.data = .fields vs := let ⟨_, fv, _, e, _⟩ := h; ⟨fv, e⟩
theorem codeRec_own {h₀ h : Heap} {L : Addr} {m : Str → Option Value} {c : Addr} {q : Str} (F : Fr h₀ L h m) (r : h.CodeRec (.ref c) q) : ∃ cr, News h₀ L h cr ∧ (∀ z ∈ cr, z.1 = c ∧ IsRec z.2) ∧ ∀ h', h₀.StaysIn h' → HoldsAll cr h' → h'.CodeRec (.ref c) q := by
  obtain ⟨c2, o, vs, t, e1, e2, e3, e4⟩ := r
  cases e1
  have hcL : c ≠ L := fun e => by
    obtain ⟨oL, es, ep, hoL, hd, _⟩ := F.ns
    rw [e, hoL] at e2; cases e2; rw [hd] at e3; cases e3
  cases q : h₀.get? c with
  | some o' =>
    have e := F.keep _ _ q
    rw [e2] at e
    cases e
    exact ⟨[], News.nil, fun _ h => (nomatch h), fun h' st _ => ⟨c, o, vs, t, rfl, st _ _ q, e3, e4⟩⟩
  | none =>
    refine ⟨[(c, o)], fun z hz => ?_, fun z hz => ?_, fun h' _ hh => ⟨c, o, vs, t, rfl, hh _ (.head _), e3, e4⟩⟩
    · rw [List.mem_singleton.mp hz]; exact ⟨e2, hcL, q⟩
    · rw [List.mem_singleton.mp hz]; exact ⟨rfl, _, _, _, e3, e4⟩
theorem news_sub {h₀ h : Heap} {L : Addr} {a b : List (Addr × Obj)} (N : News h₀ L h a) (hs : ∀ z ∈ b, z ∈ a) : News h₀ L h b := fun z hz => N z (hs z hz)
theorem news_append {h₀ h : Heap} {L : Addr} {a b : List (Addr × Obj)} (A : News h₀ L h a) (B : News h₀ L h b) : News h₀ L h (a ++ b) := fun z hz => (List.mem_append.mp hz).elim (A z) (B z)
theorem news_cons {h₀ h : Heap} {L : Addr} {q : Addr × Obj} {b : List (Addr × Obj)} (A : h.get? q.1 = some q.2 ∧ q.1 ≠ L ∧ h₀.get? q.1 = none) (B : News h₀ L h b) : News h₀ L h (q :: b) := fun z hz => by
  rcases List.mem_cons.mp hz with rfl | hz
  · exact A
  · exact B z hz
theorem CodeT.own {h₀ h : Heap} {L : Addr} {m : Str → Option Value} {P : Addr} {a b : Int} {q : Str} (F : Fr h₀ L h m) (H : CodeT P a b q h) (h0 : h₀.get? P = none) (hL : P ≠ L) :
    ∃ cr, News h₀ L h cr ∧ (∀ z ∈ cr, (∃ vs, z.2.data = .fields vs) ∧ (z.1 = P ∨ IsRec z.2)) ∧ (∀ h', h₀.StaysIn h' → HoldsAll cr h' → CodeT P a b q h') ∧ ∃ o, (P, o) ∈ cr := by
  rcases H with e | ⟨c, e, r⟩
  · exact ⟨[(P, tabObj #[])], fun z hz => by rw [List.mem_singleton.mp hz]; exact ⟨e, hL, h0⟩, fun z hz => by rw [List.mem_singleton.mp hz]; exact ⟨⟨_, rfl⟩, .inl rfl⟩, fun h' _ hh => .inl (hh _ (.head _)), _, .head _⟩
  · obtain ⟨cr, n1, n2, n3⟩ := codeRec_own F r
    refine ⟨(P, tabObj #[rawInt a, rawInt b, .ref c]) :: cr, news_cons ⟨e, hL, h0⟩ n1, fun z hz => ?_, fun h' st hh => .inr ⟨c, hh _ (.head _), n3 h' st fun z hz => hh z (.tail _ hz)⟩, _, .head _⟩
    rcases List.mem_cons.mp hz with rfl | hz
    · exact ⟨⟨_, rfl⟩, .inl rfl⟩
    · exact ⟨(n2 z hz).2.fields, .inr (n2 z hz).2⟩
noncomputable def wayQual : Str := "_law_name.<locals>.<lambda>"
noncomputable def shS (T G : Addr) : List Addr := [T, G, 38, 50]
structure Sh (w : World) (D : Str → Int) (T G : Addr) (x : List Str) (h : Heap) : Prop where
  tab : ∃ o kvs, h.get? T = some o ∧ o.IsDictOf (strKind PySem.Challenge.pw_dw0016_02 w) kvs ∧ KvInts D kvs x
  log : ∃ vs c, h.get? G = some (W.listOf (List.toArray vs) c) ∧ StrsAre vs x
  c38 : CodeT 38 7 4 convQual h
  c50 : CodeT 50 23 14 wayQual h
section
variable {w : World} {D : Str → Int} {T G : Addr} {x : List Str} {h h' : Heap}
theorem Sh.keeps (H : Sh w D T G x h) (k : h.StaysIn h') : Sh w D T G x h' := by
  obtain ⟨⟨o, kvs, a1, a2⟩, ⟨vs, c, b1, b2⟩, c1, c2⟩ := H
  exact ⟨⟨o, kvs, k _ _ a1, a2⟩, ⟨vs, c, k _ _ b1, b2⟩, c1.keeps k, c2.keeps k⟩
theorem dict_nf {K : Type} [DecidableEq K] {prog : Program} {w : World} {knd : KeyKind prog w K} {o : Obj} {kvs : List (K × Value)} (H : o.IsDictOf knd kvs) : ∀ vs, o.data ≠ .fields vs := fun vs e => by
  obtain ⟨es, ep, _, hd, _⟩ := H
  rw [e] at hd; cases hd
theorem Sh.codeNot (H : Sh w D T G x h) {c : Addr} {q : Str} (r : h.CodeRec (.ref c) q) : c ∉ shS T G := by
  obtain ⟨⟨o, kvs, a1, a2, _⟩, ⟨vs, k, b1, _⟩, c1, c2⟩ := H
  intro hm
  obtain ⟨ps1, d1, d2⟩ := c1.tab
  obtain ⟨ps2, f1, f2⟩ := c2.tab
  have n1 := codeRec_ne r d1 d2
  have n2 := codeRec_ne r f1 f2
  obtain ⟨c3, oc, vc, t, e1, e2, e3, e4⟩ := r
  cases e1
  simp only [shS, List.mem_cons, List.not_mem_nil, or_false] at hm
  rcases hm with rfl | rfl | rfl | rfl
  · rw [a1] at e2; cases e2; exact dict_nf a2 _ e3
  · rw [b1] at e2; cases e2; cases e3
  · exact n1 rfl
  · exact n2 rfl
theorem Sh.ne38 (H : Sh w D T G x h) : T ≠ 38 ∧ G ≠ 38 := by
  obtain ⟨⟨o, kvs, a1, a2, _⟩, ⟨vs, k, b1, _⟩, c1, c2⟩ := H
  obtain ⟨ps1, d1, d2⟩ := c1.tab
  refine ⟨fun e => ?_, fun e => ?_⟩
  · rw [e, d1] at a1; cases a1; exact dict_nf a2 _ rfl
  · rw [e, d1] at b1; cases b1
theorem Sh.keep38 (H : Sh w D T G x h) (k : KeepBut [38] h h') (c : CodeT 38 7 4 convQual h') : Sh w D T G x h' := by
  obtain ⟨n1, n2⟩ := H.ne38
  have hc := fun c (r : h.CodeRec (.ref c) wayQual) => H.codeNot r
  obtain ⟨⟨o, kvs, a1, a2⟩, ⟨vs, k', b1, b2⟩, c1, c2⟩ := H
  refine ⟨⟨o, kvs, k _ _ (fun m => n1 (List.mem_singleton.mp m)) a1, a2⟩, ⟨vs, k', k _ _ (fun m => n2 (List.mem_singleton.mp m)) b1, b2⟩, c, c2.but k (by decide) fun c r m => hc c r ?_⟩
  rw [List.mem_singleton.mp m]; simp [shS]
theorem Sh.hide {base : Heap} {l : List Env} (H : Sh w D T G x h) (ff : h.FunFrames base l) (n : ∀ b ∈ shS T G, b ∉ frs l) : Sh w D T G x (hideAll h (frs l)) := by
  obtain ⟨⟨o, kvs, a1, a2⟩, ⟨vs, k', b1, b2⟩, c1, c2⟩ := H
  exact ⟨⟨o, kvs, hideAll_get _ a1 (n _ (.head _)), a2⟩, ⟨vs, k', hideAll_get _ b1 (n _ (.tail _ (.head _))), b2⟩, c1.hide ff, c2.hide ff⟩
theorem Sh.have (H : Sh w D T G x h) : ∀ b ∈ shS T G, ∃ o, h.get? b = some o := by
  obtain ⟨⟨o, kvs, a1, a2⟩, ⟨vs, k', b1, b2⟩, c1, c2⟩ := H
  obtain ⟨ps1, d1, d2⟩ := c1.tab
  obtain ⟨ps2, f1, f2⟩ := c2.tab
  intro b hb
  simp only [shS, List.mem_cons, List.not_mem_nil, or_false] at hb
  rcases hb with rfl | rfl | rfl | rfl
  · exact ⟨_, a1⟩
  · exact ⟨_, b1⟩
  · exact ⟨_, d1⟩
  · exact ⟨_, f1⟩
/-- what of the state lies in the ledger -/
structure OwnSt (w : World) (D : Str → Int) (T G : Addr) (h₀ : Heap) (x : List Str) (oT : Obj) (kvs : List (Str × Value)) (vs : List Value) (cod : List (Addr × Obj)) : Prop where
  d : oT.IsDictOf (strKind PySem.Challenge.pw_dw0016_02 w) kvs
  kv : KvInts D kvs x
  l : StrsAre vs x
  nt : ∀ z ∈ cod, z.1 ≠ T ∧ z.1 ≠ G ∧ ∃ vs, z.2.data = .fields vs
  who : ∀ z ∈ cod, z.1 = 38 ∨ z.1 = 50 ∨ IsRec z.2
  i38 : ∃ o, (38, o) ∈ cod
  i50 : ∃ o, (50, o) ∈ cod
  ok : ∀ h', h₀.StaysIn h' → HoldsAll cod h' → CodeT 38 7 4 convQual h' ∧ CodeT 50 23 14 wayQual h'
theorem Sh.own {h₀ : Heap} {L : Addr} {m : Str → Option Value} (F : Fr h₀ L h m) (H : Sh w D T G x h) (hS : ∀ b ∈ shS T G, h₀.get? b = none ∧ b ≠ L) :
    ∃ oT kvs vs c cod, News h₀ L h ((T, oT) :: (G, W.listOf (List.toArray vs) c) :: cod) ∧ OwnSt w D T G h₀ x oT kvs vs cod := by
  obtain ⟨⟨o, kvs, a1, a2, a3⟩, ⟨vs, k', b1, b2⟩, c1, c2⟩ := H
  obtain ⟨r1, x1, x2, x3, x4, x5⟩ := c1.own F (hS 38 (by simp [shS])).1 (hS 38 (by simp [shS])).2
  obtain ⟨r2, y1, y2, y3, y4, y5⟩ := c2.own F (hS 50 (by simp [shS])).1 (hS 50 (by simp [shS])).2
  have N := news_append x1 y1
  have nf : ∀ z ∈ r1 ++ r2, ∃ vs, z.2.data = .fields vs := fun z hz => (List.mem_append.mp hz).elim (fun q => (x2 z q).1) fun q => (y2 z q).1
  have who : ∀ z ∈ r1 ++ r2, z.1 = 38 ∨ z.1 = 50 ∨ IsRec z.2 := fun z hz => (List.mem_append.mp hz).elim (fun q => (x2 z q).2.elim .inl fun r => .inr (.inr r)) fun q => (y2 z q).2.elim (fun r => .inr (.inl r)) fun r => .inr (.inr r)
  refine ⟨o, kvs, vs, k', r1 ++ r2, news_cons ⟨a1, (hS T (.head _)).2, (hS T (.head _)).1⟩ (news_cons ⟨b1, (hS G (.tail _ (.head _))).2, (hS G (.tail _ (.head _))).1⟩ N), a2, a3, b2, fun z hz => ?_, who, ⟨_, List.mem_append_left _ x5⟩, ⟨_, List.mem_append_right _ y5⟩, fun h' st hh => ⟨x3 h' st fun z hz => hh z (List.mem_append_left _ hz), y3 h' st fun z hz => hh z (List.mem_append_right _ hz)⟩⟩
  obtain ⟨fv, hf⟩ := nf z hz
  have hg := (N z hz).1
  refine ⟨fun e => ?_, fun e => ?_, fv, hf⟩
  · rw [e, a1] at hg; cases hg; exact dict_nf a2 _ hf
  · rw [e, b1] at hg; rw [← Option.some.inj hg] at hf; cases hf
theorem OwnSt.sh {h₀ : Heap} {oT : Obj} {kvs : List (Str × Value)} {vs : List Value} {c : Nat} {cod : List (Addr × Obj)} (O : OwnSt w D T G h₀ x oT kvs vs cod) (st : h₀.StaysIn h') (h1 : h'.get? T = some oT) (h2 : h'.get? G = some (W.listOf (List.toArray vs) c)) (h3 : HoldsAll cod h') : Sh w D T G x h' :=
  ⟨⟨oT, kvs, h1, O.d, O.kv⟩, ⟨vs, c, h2, O.l⟩, (O.ok h' st h3).1, (O.ok h' st h3).2⟩
theorem Sh.notS (H : Sh w D T G x h) {a : Addr} {o : Obj} (hg : h.get? a = some o) (hT : a ≠ T) (hG : a ≠ G) (hf : ∀ vs, o.data ≠ .fields vs) : a ∉ shS T G := by
  obtain ⟨ps1, d1, _⟩ := H.c38.tab
  obtain ⟨ps2, f1, _⟩ := H.c50.tab
  intro hm
  simp only [shS, List.mem_cons, List.not_mem_nil, or_false] at hm
  rcases hm with rfl | rfl | rfl | rfl
  · exact hT rfl
  · exact hG rfl
  · rw [d1] at hg; cases hg; exact hf _ rfl
  · rw [f1] at hg; cases hg; exact hf _ rfl
theorem OwnSt.more {h₀ : Heap} {oT : Obj} {kvs : List (Str × Value)} {vs : List Value} {cod cr : List (Addr × Obj)} (O : OwnSt w D T G h₀ x oT kvs vs cod) (hc : ∀ z ∈ cr, z.1 ≠ T ∧ z.1 ≠ G ∧ IsRec z.2) : OwnSt w D T G h₀ x oT kvs vs (cod ++ cr) :=
  ⟨O.d, O.kv, O.l, fun z hz => (List.mem_append.mp hz).elim (O.nt z) (fun q => ⟨(hc z q).1, (hc z q).2.1, (hc z q).2.2.fields⟩), fun z hz => (List.mem_append.mp hz).elim (O.who z) (fun q => .inr (.inr (hc z q).2.2)), let ⟨o, h⟩ := O.i38; ⟨o, List.mem_append_left _ h⟩, let ⟨o, h⟩ := O.i50; ⟨o, List.mem_append_left _ h⟩, fun h' st hh => O.ok h' st fun z hz => hh z (List.mem_append_left _ hz)⟩
/-- a code record that the ledger bears -/
noncomputable def RecOk (h₀ : Heap) (c : Addr) (q : Str) (tl : List (Addr × Obj)) : Prop := ∀ h', h₀.StaysIn h' → HoldsAll tl h' → h'.CodeRec (.ref c) q
theorem start_own {h₀ : Heap} {L c : Addr} {q : Str} {m : Str → Option Value} {loc : List (Addr × Obj)} (F : Fr h₀ L h m) (N : News h₀ L h loc) (H : Sh w D T G x h) (r : h.CodeRec (.ref c) q) (hS : ∀ b ∈ shS T G, h₀.get? b = none ∧ b ≠ L) :
    ∃ oT kvs vs k tl, News h₀ L h (loc ++ (T, oT) :: (G, W.listOf (List.toArray vs) k) :: tl) ∧ OwnSt w D T G h₀ x oT kvs vs tl ∧ RecOk h₀ c q tl := by
  obtain ⟨oT, kvs, vs, k, cod, N1, O⟩ := H.own F hS
  obtain ⟨cr, n1, n2, n3⟩ := codeRec_own F r
  have hn := H.codeNot r
  refine ⟨oT, kvs, vs, k, cod ++ cr, news_append N (news_append (a := (T, oT) :: (G, W.listOf (List.toArray vs) k) :: cod) N1 n1), O.more fun z hz => ?_, fun h' st hh => n3 h' st fun z hz => hh z (List.mem_append_right _ hz)⟩
  obtain ⟨e, hf⟩ := n2 z hz
  rw [e]
  exact ⟨fun e => hn (by rw [e]; simp [shS]), fun e => hn (by rw [e]; simp [shS]), hf⟩
end
end Mine
end -- E3
section -- R1
open PySem PySem.W PyProof.Rows PySem.Calls PySem.Spec
namespace Mine
open StrLaws Builtin.Str
/-! a text cut at its one separator -/
theorem ls_app (a b : Str) : (a ++ b).cps.toList = a.cps.toList ++ b.cps.toList := by
  show (a.cps ++ b.cps).toList = _
  simp
theorem chain_ats {s sub : Str} {hi : Nat} : ∀ {cuts : List Nat} {a f : Nat}, ChainTo s sub hi a cuts f → (∀ c ∈ cuts, StrLaws.At s sub hi c ∧ a ≤ c) ∧ cuts.Pairwise (fun c d => c + sub.length ≤ d)
  | [], _, _, _ => ⟨fun _ h => (nomatch h), .nil⟩
  | c :: r, a, f, h => by
    obtain ⟨h1, h2, h3⟩ := h
    obtain ⟨g1, g2⟩ := chain_ats h3
    refine ⟨fun d hd => ?_, List.pairwise_cons.mpr ⟨fun d hd => (g1 d hd).2, g2⟩⟩
    rcases List.mem_cons.mp hd with rfl | hd
    · exact ⟨h2, h1⟩
    · exact ⟨(g1 d hd).1, by have := (g1 d hd).2; omega⟩
theorem occ_nil {x y : Str} {lim : Nat} (h : ∀ i, ¬ StrLaws.At x y x.length i) : occurrences x y 0 x.length lim = [] := by
  obtain ⟨f, hc⟩ := occ_chain x y lim
  cases q : occurrences x y 0 x.length lim with
  | nil => rfl
  | cons c r =>
    rw [q] at hc
    exact absurd ((chain_ats hc).1 c (.head _)).1 (h c)
theorem occ_one {x y : Str} {lim k : Nat} (hl : 1 ≤ lim) (hy : 0 < y.length) (h : ∀ i, StrLaws.At x y x.length i ↔ i = k) : occurrences x y 0 x.length lim = [k] := by
  obtain ⟨f, hc⟩ := occ_chain x y lim
  obtain ⟨g1, g2⟩ := chain_ats hc
  rcases occ_head_from x y 0 lim hl with ⟨_, hn⟩ | ⟨i, r, h0, _, hi, _⟩
  · exact absurd ((h k).mpr rfl) (hn k (Nat.zero_le _))
  · have hik := (h i).mp hi
    subst hik
    rw [h0] at g1 g2 ⊢
    cases r with
    | nil => rfl
    | cons d r =>
      have hd := (h d).mp (g1 d (.tail _ (.head _))).1
      have := (List.pairwise_cons.mp g2).1 d (.head _)
      omega
theorem split_none {x y : Str} (h : ∀ i, ¬ StrLaws.At x y x.length i) : Txt.split x y = [x] := by
  unfold Txt.split
  rw [occ_nil h]
  simp
theorem kind_pos (x : Str) : 1 ≤ Builtin.Str.strKind x := by
  unfold Builtin.Str.strKind
  split
  · exact Nat.le_refl _
  · split <;> omega
theorem split_one {x y : Str} {k : Nat} (hy : 0 < y.length) (hky : Builtin.Str.strKind y = 1) (h : ∀ i, StrLaws.At x y x.length i ↔ i = k) : Txt.split x y = [strSub x 0 k, strSub x (k + y.length) x.length] := by
  unfold Txt.split
  have h1 := ((h k).mpr rfl).1
  have h2 := kind_pos x
  have h3 : (decide (x.length < y.length) || decide (Builtin.Str.strKind x < Builtin.Str.strKind y)) = false := by
    rw [hky, Bool.or_eq_false_iff, decide_eq_false_iff_not, decide_eq_false_iff_not]; omega
  rw [h3, if_neg (by decide), occ_one (by omega) hy h, partsBetween_eq]
  rfl
theorem str_of {a b : Str} (h : a.cps.toList = b.cps.toList) : a = b := by
  cases a; cases b; simp only [Str.mk.injEq]; exact Array.toList_inj.mp h
theorem at_char {x y : Str} {c : Nat} {S : List Nat} {i : Nat} (hS : y.cps.toList = c :: S) (h : StrLaws.At x y x.length i) : x.cps.toList[i]? = some c := by
  obtain ⟨_, h2⟩ := h
  rw [StrLaws.subAt_eq, beq_iff_eq, hS] at h2
  have : ((x.cps.toList.drop i).take y.length)[0]? = some c := by rw [h2]; rfl
  rw [List.getElem?_take] at this
  split at this
  · simpa using this
  · cases this
theorem split_free {x y : Str} {c : Nat} {S : List Nat} (hS : y.cps.toList = c :: S) (hc : c ∉ x.cps.toList) : Txt.split x y = [x] :=
  split_none fun i h => hc (List.mem_of_getElem? (at_char hS h))
theorem split_two {p q y : Str} {c : Nat} {S : List Nat} (hS : y.cps.toList = c :: S) (hp : c ∉ p.cps.toList) (hq : c ∉ q.cps.toList) (hs : c ∉ S) (hky : Builtin.Str.strKind y = 1) : Txt.split (p ++ y ++ q) y = [p, q] := by
  have hx : (p ++ y ++ q).cps.toList = p.cps.toList ++ c :: (S ++ q.cps.toList) := by rw [ls_app, ls_app, hS]; simp
  have hl : ∀ z : Str, z.length = z.cps.toList.length := fun z => by simp [Str.length]
  have hyl : y.length = S.length + 1 := by rw [hl, hS]; rfl
  have hat : ∀ i, StrLaws.At (p ++ y ++ q) y (p ++ y ++ q).length i ↔ i = p.length := by
    intro i
    constructor
    · intro h
      have h1 := at_char hS h
      rw [hx] at h1
      rcases Nat.lt_trichotomy i p.cps.toList.length with e | e | e
      · rw [List.getElem?_append_left e] at h1
        exact absurd (List.mem_of_getElem? h1) hp
      · rw [hl]; exact e
      · rw [List.getElem?_append_right (Nat.le_of_lt e)] at h1
        obtain ⟨j, hj⟩ : ∃ j, i - p.cps.toList.length = j + 1 := ⟨i - p.cps.toList.length - 1, by omega⟩
        rw [hj, List.getElem?_cons_succ] at h1
        rcases List.mem_append.mp (List.mem_of_getElem? h1) with h2 | h2
        · exact absurd h2 hs
        · exact absurd h2 hq
    · rintro rfl
      refine ⟨by rw [hl (p ++ y ++ q), hx, hl p, hyl]; simp; try omega, ?_⟩
      rw [StrLaws.subAt_eq, hx, hl p, List.drop_left, hyl, hS, beq_iff_eq]
      simp
  rw [split_one (by omega) hky hat]
  have e1 : strSub (p ++ y ++ q) 0 p.length = p := str_of (by rw [strSub_toList, hx, hl p]; simp)
  have e2 : strSub (p ++ y ++ q) (p.length + y.length) (p ++ y ++ q).length = q := str_of (by
    have e : p.cps.toList ++ c :: (S ++ q.cps.toList) = (p.cps.toList ++ c :: S) ++ q.cps.toList := by simp
    rw [strSub_toList, hx, e, show p.length + y.length = (p.cps.toList ++ c :: S).length by rw [hl p, hyl]; simp, List.drop_left, hl (p ++ y ++ q), hx, List.take_of_length_le (by simp; omega)])
  rw [e1, e2]
end Mine
end -- R1
section -- R3
open PySem PySem.W PyProof.Rows PySem.Calls PySem.Spec
namespace Mine
/-! a number's text, read back -/
theorem int_small {i : Int} (h : -(2 ^ 100) < i ∧ i < 2 ^ 100) : (Str.ofString (toString i)).length ≤ 40 := by
  have e := int_text_length_le10 (a := i) (k := 31) (by decide) (by omega)
  rw [PySem.ofString_length]; omega
theorem nat_digits_text (m : Nat) : NumText.AllDigits ((Nat.toDigits 10 m).map Char.toNat) ∧ (Nat.toDigits 10 m).map Char.toNat ≠ [] := by
  refine ⟨fun c hc => ?_, fun e => ?_⟩
  · obtain ⟨ch, hch, e⟩ := List.mem_map.mp hc
    have r := digit_range (Nat.isDigit_of_mem_toDigits (by decide) (by decide) hch)
    rw [← e]
    exact r
  · have h := toDigits_len_ge 10 m
    rw [List.map_eq_nil_iff.mp e] at h
    exact absurd h (by decide)
theorem signs_neg (m : Nat) : (Str.ofString (toString (Int.negSucc m))).cps.toList = 45 :: (Nat.toDigits 10 (m + 1)).map Char.toNat := by
  rw [signs_ofString]
  show ("-" ++ Nat.repr (m + 1)).toList.map Char.toNat = _
  rw [String.toList_append, Nat.toList_repr]
  rfl
theorem int_reads {i : Int} (h : -(2 ^ 100) < i ∧ i < 2 ^ 100) : PySem.intText? (Str.ofString (toString i)) = some i := by
  have hl := int_small h
  cases i with
  | ofNat m =>
    obtain ⟨h1, h2⟩ := nat_digits_text m
    have e := intText_digits (x := Str.ofString (toString (Int.ofNat m))) (by rw [show (Int.ofNat m) = ((m : Nat) : Int) from rfl, KIN.signs_num]; exact h1) (by rw [show (Int.ofNat m) = ((m : Nat) : Int) from rfl, KIN.signs_num]; exact h2) (by omega)
    rw [show (Int.ofNat m) = ((m : Nat) : Int) from rfl, KIN.signs_num, KIN.val_back] at e
    exact e
  | negSucc m =>
    obtain ⟨h1, h2⟩ := nat_digits_text (m + 1)
    have e := intText_neg (signs_neg m) h1 h2 (by omega)
    rw [KIN.val_back] at e
    rw [e]
    rfl
theorem int_no (i : Int) {c : Nat} (hc : c ≠ 45 ∧ (c < 48 ∨ 57 < c)) : c ∉ (Str.ofString (toString i)).cps.toList := int_text_free' c hc i
end Mine
end -- R3
section -- N1
open PySem PySem.W PyProof.Rows PySem.Calls PySem.Spec
set_option maxHeartbeats 8000000
namespace Mine
variable {w : World} {base : Heap} {p : Program} {loose : List Str} {mean : ExcName → Option Value} {mg mb : Str → Option Value}
local macro_rules | `(tactic| walk_at "pyIter ref") => `(tactic| refine Mine.Stop.mk ?_)
local macro_rules | `(tactic| walk_at "call builtin:str.split cons nil") => `(tactic| refine Mine.Stop.mk ?_)
local macro_rules | `(tactic| walk_at "call type:int cons nil") => `(tactic| refine Mine.Stop.mk ?_)
local macro_rules | `(tactic| walk_at "eval ListComp") => `(tactic| refine Mine.Stop.mk ?_)
local macro_rules | `(tactic| k_room) => `(tactic| ((have hRL9 : recursionLimit = 1000 := rfl); (simp only [depth_under_make, depth_under_kw, depth_in1, depth_deeper, depth_caller] at *); omega))
local macro_rules | `(tactic| walk_at "eval Name") => `(tactic| (refine LCgL.ld_own (by assumption) (List.Mem.head _) (by assumption) (by assumption) ?_))
theorem parts_fit {x y : Str} (h : x.length ≤ 100000) : (Builtin.Str.partsBetween x (Builtin.Str.occurrences x y 0 x.length (x.length + 1)) y.length).length ≤ sizeLine := by
  have h1 := StrLaws.occ_length_le x y 0 x.length (x.length + 1)
  have : sizeLine = 2 ^ 24 := rfl
  simp only [Builtin.Str.partsBetween, List.length_map, List.length_zip, List.length_cons, List.length_append, List.length_nil]
  omega
theorem ints_of {vs : List Value} {is : List Int} (hl : vs.length = is.length) (h : ∀ i, i < is.length → ∃ t, vs[i]? = some (Value.int (is.getD i 0) t)) : IntsAre vs is := by
  induction is generalizing vs with
  | nil => rw [List.eq_nil_of_length_eq_zero hl]; exact .nil
  | cons n r ih =>
    cases vs with
    | nil => cases hl
    | cons v vs =>
      obtain ⟨t, e⟩ := h 0 (by simp)
      have e' : v = Value.int n t := by simpa using e
      subst e'
      exact .cons n t (ih (by simpa using hl) fun i hi => by simpa using h (i + 1) (by simpa using hi))
theorem numsT (bs : Base1 w base p loose mean mg mb) {g : Heap} {text : Str} {tt : Tok} {parts : List Str} {is : List Int} (hlen : text.length ≤ 10000) (hne : text ≠ Str.ofString "()")
    (hsp : Txt.split (Txt.slice text (some 1) (some (-1))) (Str.ofString ", ") = parts) (hpl : parts.length = is.length) (hil : is.length ≤ 100)
    (hp : ∀ (i : Nat) x, parts[i]? = some x → ∃ a b, Txt.split x (Str.ofString "=") = [a, b] ∧ x.length ≤ 2000 ∧ b.length ≤ 640 ∧ PySem.intText? b = is[i]?) :
    Calls PySem.Challenge.pw_dw0016_02 w base [] 2 60 (fun h => ∀ a o, g.get? a = some o → (h.get? a).isSome = true) (.ref 48) [.str text tt] []
      (fun r h' => ∃ l vs c, r = Value.ref l ∧ g.get? l = none ∧ h'.get? l = some (W.listOf (List.toArray vs) c) ∧ IntsAre vs is) (fun _ _ => False) := by
  refine' calls_K (K := hd2.heap_39 w.params) (binds := [(Str.ofString "text", .str text tt)]) ?hS bs.T.nolimit bs.K (by omega) ?ho ?hcd ?hbind ?hloc ?body ?hcell ?hco ?hgen ?hk
  case ho => k_is
  case hcd => k_is
  case hS => intro b hb; cases hb
  case hbind => exact fun s st => BindsTo.of_eq rfl
  case hloc => exact locs rfl
  case hcell => decide
  case hco => exact rfl
  case hgen => exact rfl
  case hk => exact rfl
  intro A fr s L h₁ hA hg hh hroom hu ff hSf stg B F st₁ hL
  have X := bs.K.keeps stg
  have T := bs.T.keeps stg
  have N : News (hideAll s.heap []) L h₁ [] := News.nil
  k_steps
  · show wpAny _ _ _ _ _ _
    refine comp_G (n := is.length) (P := fun i v => ∃ x t, parts[i]? = some x ∧ v = Value.str x t) (keep := fun _ => true) (V := fun i r => ∃ t, r = Value.int (is.getD i 0) t) (G := fun _ _ => False) (cl := []) (B₀ := topOf L []) (K := fun h => Fr (hideAll s.heap []) L h (fun y => List.lookup y [(Str.ofString "text", Value.str text tt)].reverse) ∧ News (hideAll s.heap []) L h []) frameKept (by with_unfolding_all rfl) (by decide) rfl (by decide) rfl (by omega) ?_ (.inl ⟨rfl, fun _ => rfl⟩) ?_ ?_
    · intro Q' k
      k_steps
      show wpAny _ _ (call _ _ _) _ _ _
      rename Fr _ _ _ _ => F'
      refine SCH.split1 (P := fun h => Fr (hideAll s.heap []) L h (fun y => List.lookup y [(Str.ofString "text", Value.str text tt)].reverse)) (fun h ob p => p.push ob) F' (by decide) (fun D l h' k' e F₅ hl => ?_) (by size_fits) (parts_fit (by omega))
      clear F'
      k_steps
      show wpAny _ _ (pyIter _) _ _ _
      have hll : (strValues l).length = is.length := by rw [← hpl, ← hsp, ← e]; simp [strValues]
      refine pyIter_walks (vs := strValues l) hh hl (P' := fun i v => ∃ x t, parts[i]? = some x ∧ v = Value.str x t) (fun i v hv => ?_) (fun I h₂ tk₂ fp St e1 e2 st hfp hI Wk hIs hS => ?_)
      · simp only [strValues, List.getElem?_map, Option.map_eq_some_iff] at hv
        obtain ⟨⟨x, t⟩, h1, rfl⟩ := hv
        exact ⟨x, t, by rw [← hsp, ← e, List.getElem?_map, h1]; rfl, rfl⟩
      · rw [hll] at Wk
        exact k I h₂ tk₂ fp St (by rw [← e1]; exact F₅.ns.lt) e2 ⟨F₅.keeps st, News.nil⟩ hfp hI Wk hIs hS
    · rintro i v hi ⟨x, tx, hx, rfl⟩ _ C s₃ m₃ E' hC hns hm₃ ⟨F₃, _⟩
      obtain ⟨oC, hoC, hN⟩ := LCg.ns_obj hns
      obtain ⟨a, b, ha, hxl, hbl, hb⟩ := hp i x hx
      have hCL : L < C := hC
      have N₃ : News (hideAll s.heap []) L s₃.heap [(C, oC)] := fun q hq => by
        rw [List.mem_singleton.mp hq]
        exact ⟨hoC, Nat.ne_of_gt hCL, Heap.get?_none_of_le (Nat.le_trans F₃.above (Nat.le_of_lt hCL))⟩
      k_steps
      show wpAny _ _ (call _ _ _) _ _ _
      refine SCH.split1 (P := fun h => s₃.heap.StaysIn h) (fun h ob p b o e => Heap.get?_push_of_some _ (p b o e)) (fun _ _ e => e) (by decide) (fun D l h' k' e st hl => ?_) (by size_fits) (parts_fit (by omega))
      rw [ha] at e
      obtain ⟨ta, tb, rfl⟩ : ∃ ta tb, l = [(a, ta), (b, tb)] := by
        match l, e with
        | [(a', ta), (b', tb)], e => simp at e; exact ⟨ta, tb, by rw [e.1, e.2]⟩
      have F₅ := F₃.keeps st
      clear F₃
      k_steps
      show wpAny _ _ (call (Value.type "int") [Value.str b _] _) _ _ _
      refine KIN.call_text (n := is.getD i 0) (by rw [hb, List.getElem?_eq_getElem hi]; simp [hi]) hbl ?_
      exact ⟨_, _, rfl, st, .inl ⟨_, rfl⟩⟩
    · intro D h' tk ys c hD ⟨F', _⟩ hg' M
      have hgD : g.get? D = none := by
        cases q : g.get? D with
        | none => rfl
        | some o =>
          have h1 := hg D o q
          obtain ⟨o', ho'⟩ := Option.isSome_iff_exists.mp h1
          have h2 := Heap.lt_size ho'
          rw [← hL] at h2
          exact absurd h2 (Nat.not_lt.mpr (Nat.le_of_lt hD))
      refine Out.mk F'.keep ⟨D, ys, c, rfl, hgD, hg', ?_⟩
      rw [keptTo_all] at M
      refine ints_of (by simpa using M.1) fun i hi => ?_
      have hi' : i < ys.length := by rw [M.1]; simpa using hi
      rcases M.2 i ys[i] i (List.getElem?_eq_getElem hi') (by simp [hi]) with ⟨t, e⟩ | ⟨_, _, _, _, _, h, _⟩
      · exact ⟨t, by rw [List.getElem?_eq_getElem hi', e]⟩
      · exact h.elim
  · exact absurd ‹(text != Str.ofString "()") = false› (by simpa using hne)
end Mine
end -- N1
section -- E4
open PySem PySem.W PyProof.Rows PySem.Calls PySem.Spec
set_option maxHeartbeats 8000000
namespace Mine
variable {w : World} {base : Heap} {p : Program} {loose : List Str} {mean : ExcName → Option Value} {mg mb : Str → Option Value}
local macro_rules | `(tactic| walk_at "subscriptTail Name Name ref str") => `(tactic| refine Mine.Stop.mk ?_)
local macro_rules | `(tactic| walk_at "call ref cons nil") => `(tactic| refine Mine.Stop.mk ?_)
local macro_rules | `(tactic| k_room) => `(tactic| ((have hRL9 : recursionLimit = 1000 := rfl); (simp only [depth_under_make, depth_under_kw, depth_in1, depth_deeper, depth_caller] at *); omega))
theorem FnAt_keeps {q : Addr} {h h' : Heap} (x : FnAt q h) (k : h.StaysIn h') : FnAt q h' := let ⟨a, b, c, d, e⟩ := x; ⟨a, b, c, d, k _ _ e⟩
local macro_rules | `(tactic| walk_at "callWith ref") => `(tactic| (refine callWith_F (Mine.FnAt_keeps (by assumption) (Fr.keep (by assumption))) ?_))
local macro_rules | `(tactic| walk_at "FnAt") => `(tactic| (exact Mine.FnAt_keeps (by assumption) (Fr.keep (by assumption))))
theorem fr_but {h₀ h h' : Heap} {L : Addr} {m : Str → Option Value} {S : List Addr} (F : Fr h₀ L h m) (k : KeepBut S h h') (hS : ∀ b ∈ S, h₀.get? b = none ∧ b ≠ L) : Fr h₀ L h' m :=
  ⟨F.ns.at' fun o e => k _ o (fun hm => (hS _ hm).2 rfl) e, fun b o e => k b o (fun hm => by rw [(hS b hm).1] at e; cases e) (F.keep b o e), F.above⟩
theorem hide_again {g h : Heap} {S : List Addr} (st : (hideAll g S).StaysIn h) : (hideAll g S).StaysIn (hideAll h S) := fun b o e => hideAll_get _ (st b o e) (hide_some e).2
/-- S stands below the frame -/
theorem hideS {S : List Addr} {h : Heap} {L : Addr} (hv : ∀ b ∈ S, ∃ o, h.get? b = some o) (hL : L = h.objs.size) : ∀ b ∈ S, (hideAll h S).get? b = none ∧ b ≠ L := fun b hb =>
  ⟨hideAll_none S hb, let ⟨_, e⟩ := hv b hb; by rw [hL]; exact Nat.ne_of_lt (Heap.lt_size e)⟩
theorem dict_at {prog : Program} {w : World} {A : Around} {E : Value → Shared → Prop} {s : Shared} {value slice : PySem.Expr} {d : Addr} {f : Str → Option Value} {x : Str} {u : Tok} {v : Value} {Q : Value → Shared → Prop} (hm : s.heap.MapOf (strKind prog w) d f) (hx : f x = some v) (h : Q v { s with toks := s.toks + 1 })
    (hs : subscripted slice false (.ref d) (.str x u) = operate [.ref d, .str x u] (getItem (.ref d) (.str x u)) := by with_unfolding_all rfl) :
    wpAny (model prog w) A (subscriptTail value slice (.ref d) (.str x u)) Q E s :=
  tail_any hm.typeIs slot_dict_getitem.lookup (wpAny_getItem_of (strKind_is prog w x u) hm hx h) hs
theorem dict_not {prog : Program} {w : World} {A : Around} {E : Value → Shared → Prop} {s : Shared} {value slice : PySem.Expr} {d : Addr} {f : Str → Option Value} {x : Str} {u : Tok} {Q : Value → Shared → Prop} (hd : (d == sysModules) = false) (hh : A.handled = none) (hm : s.heap.MapOf (strKind prog w) d f) (hx : f x = none)
    (h : ∀ h' e, Heap.MadeExcOf s.heap h' e (.type "KeyError") [.str x u] → E (.ref e) { s with heap := h', toks := s.toks + 1 })
    (hs : subscripted slice false (.ref d) (.str x u) = operate [.ref d, .str x u] (getItem (.ref d) (.str x u)) := by with_unfolding_all rfl) :
    wpAny (model prog w) A (subscriptTail value slice (.ref d) (.str x u)) Q E s :=
  tail_any hm.typeIs slot_dict_getitem.lookup (getItem_missing hd hh hm hx h) hs
/-- a function made: its code is looked for in the table P, or laid there -/
theorem mk_fun {M : Model} {A : Around} {E : Value → Shared → Prop} {s : Shared} {h₀ : Heap} {L a c P : Addr} {m mg mb : Str → Option Value} {cn : Str} {cs : Scope} {ccd : Value} {cl : List (Str × Addr)}
    {p : Program} {loose : List Str} {mean : ExcName → Option Value} {name qual : Str} {params : Arguments} {body : FuncBody} {scope : Scope} {pos : Pos} {firstLine : Nat} {clos : List (Str × Addr)} {dV : Value} {Q : Value → Shared → Prop}
    (F : Fr h₀ L s.heap m) (T : Top p loose mean mg mb h₀) (C : CodeHd h₀ c P) (hcd : ccd = .ref c) (hP0 : h₀.get? P = none) (hPL : P ≠ L) (H : CodeT P pos.line pos.col qual s.heap) (hcl : closureFor scope (envX cn cs L a ccd cl) = pure clos)
    (h : ∀ f c' ctv doc h' tk, KeepBut [P] s.heap h' → Fr h₀ L h' m → (∀ b o, s.heap.get? b = some o → b < f) → h'.get? f = some (kdv_obj name qual params body scope clos dV doc ((mg "__name__").getD .none) c' ctv) → s.heap.objs.size ≤ f → h'.CodeRec (.ref c') qual → CodeT P pos.line pos.col qual h' → Q (.ref f) { s with heap := h', toks := tk }) :
    wpAny M A (makeTail name qual params body scope (envX cn cs L a ccd cl) dV .none none pos firstLine) Q E s := by
  have hgs := T.g.keeps F.keep
  obtain ⟨bm, ob, b1, b2, b3, b4, b5, b6⟩ := T.bmain
  have hgP : mainGlobals ≠ P := fun q => by
    obtain ⟨o, es, ep, e, hd, _⟩ := T.g
    rw [q, hP0] at e; cases e
  have hbP : bm ≠ P := fun q => by
    rw [q, hP0] at b3; cases b3
  have hbG : bm ≠ mainGlobals := fun q => by
    obtain ⟨o, es, ep, e, hd, _⟩ := T.g
    rw [q, e] at b3; cases b3; rw [hd] at b6; cases b6
  have hLs : L < s.heap.objs.size := F.ns.lt
  rcases H with hm | ⟨c', hm, hr⟩
  · refine kdv_makeTail (mg := mg) hcl rfl hgs hcd (C.keeps F.keep) hm True.intro rfl hgP ⟨bm, ob, b1, b2, hbG, hbP, F.keep _ _ b3, b4, b5, b6⟩ fun c' ctv doc h' tk hx hge hlt hrec htb => ?_
    have old : ∀ b o, h₀.get? b = some o → h'.get? b = some o := fun b o e => hx b o (fun q => by rw [q, hP0] at e; cases e) (F.keep b o e)
    refine h h'.objs.size c' ctv doc _ tk (fun b o hb e => Heap.get?_push_of_some _ (hx b o (fun q => hb (List.mem_singleton.mpr q)) e)) ⟨(F.ns.extBut hx hPL.symm).push _, fun b o e => Heap.get?_push_of_some _ (old b o e), F.above⟩
      (fun b o e => Nat.lt_of_lt_of_le (Heap.lt_size e) (Nat.le_trans hge (Nat.le_of_lt hlt))) (Heap.get?_push_size _ rfl) (Nat.le_trans hge (Nat.le_of_lt hlt)) (hrec.keeps fun b o e => Heap.get?_push_of_some _ e) (.inr ⟨c', Heap.get?_push_of_some _ htb, hrec.keeps fun b o e => Heap.get?_push_of_some _ e⟩)
  · refine kdv_makeTailHit (mg := mg) (cv := .ref c') hcl rfl hgs hcd (C.keeps F.keep) hm (by simp [TriplesOk, rawInt]) (by simp [codeAmong, rawInt]) ⟨bm, ob, b1, b2, hbG, hbP, F.keep _ _ b3, b4, b5, b6⟩ fun ctv doc h' tk hk hsz => ?_
    refine h h'.objs.size c' ctv doc _ tk (fun b o _ e => Heap.get?_push_of_some _ (hk b o e)) ⟨(F.ns.keeps hk).push _, fun b o e => Heap.get?_push_of_some _ (hk b o (F.keep b o e)), F.above⟩
      (fun b o e => Nat.lt_of_lt_of_le (Heap.lt_size e) hsz) (Heap.get?_push_size _ rfl) hsz ((hr.keeps hk).keeps fun b o e => Heap.get?_push_of_some _ e) (.inr ⟨c', Heap.get?_push_of_some _ (hk _ _ hm), (hr.keeps hk).keeps fun b o e => Heap.get?_push_of_some _ e⟩)
/-- what a name told does -/
noncomputable abbrev TellOk (w : World) (D : Str → Int) (T G : Addr) (pre : Str) (n : Str) (res : Res) (r : Value) (h' : Heap) : Prop := ∃ x' t', res = .ok x' ∧ r = Value.str (pre ++ n) t' ∧ Sh w D T G x' h'
noncomputable abbrev TellEr (w : World) (D : Str → Int) (T G : Addr) (res : Res) (y : Str) (B : Heap) : Prop := ∃ x', res = .error (x', y) ∧ Sh w D T G x' B
noncomputable abbrev dueText (D : Str → Int) (n : Str) : Str := Str.ofString "=" ++ Str.ofString (toString (D n))
theorem int_len {i : Int} (h : -(2 ^ 100) < i ∧ i < 2 ^ 100) : (Str.ofString (toString i)).length ≤ 1000 := by
  have e := int_text_length_le10 (a := i) (k := 31) (by decide) (by omega)
  rw [PySem.ofString_length]; omega
theorem conv2 (bs : Base1 w base p loose mean mg mb) {T G : Addr} {D : Str → Int} {cl : Str → List Str → Res} {Ex : Heap → Prop} {fa f' t' c' : Addr} {pm doc ctv : Value} {n : Str} {tn : Tok} {x : List Str} {dv uv : Nat}
    (hT : (T == sysModules) = false) (hb : ∀ b ∈ shS T G, base.get? b = none) (hEx : ∀ h h', Ex h → h.StaysIn h' → Ex h') (hEf : ∀ h, Ex h → FnAt fa h) (hnl : n.length ≤ 100) (hD : -(2 ^ 100) < D n ∧ D n < 2 ^ 100)
    (hfa : ∀ x t, Calls PySem.Challenge.pw_dw0016_02 w base (shS T G) (dv + 1) uv (fun h => Sh w D T G x h ∧ Ex (hideAll h (shS T G))) (.ref fa) [.str n t] [] (TellOk w D T G Str.empty n (cl n x)) (TellEr w D T G (cl n x))) :
    Calls PySem.Challenge.pw_dw0016_02 w base (shS T G) (dv + 3) (uv + 20) (fun h => h.get? f' = some (convObj pm t' doc c' ctv) ∧ h.get? t' = some (kdv_tup [.ref T, .ref fa, .ref 35]) ∧ h.CodeRec (.ref c') convQual ∧ Sh w D T G x h ∧ Ex (hideAll h (shS T G)))
      (.ref f') [.str n tn] [] (fun r h' => ∃ x' tk, asks cl n x = .ok x' ∧ r = Value.str (n ++ dueText D n) tk ∧ Sh w D T G x' h') (TellEr w D T G (asks cl n x)) := by
  refine' calls_def (cl := []) (binds := [(Str.ofString "name", .str n tn), (Str.ofString "locals", .ref T), (Str.ofString "formatarg", .ref fa), (Str.ofString "formatvalue", .ref 35)]) hb bs.T.nolimit (fun h hp _ => hp.1) rfl (fun h hp _ => hp.2.2.1) (by omega) (fun s hp _ => BindsTo.of_defaults rfl hp.2.1 rfl rfl rfl) ?hloc ?body ?hcell ?hco ?hgen ?hk
  case hloc => exact locs rfl
  case hcell => decide
  case hco => exact rfl
  case hgen => exact rfl
  case hk => exact rfl
  intro A fr s L h₁ hA hpre hh hroom hu ff hSf stg B F st₁ hL
  obtain ⟨_, _, _, hsh, hex⟩ := hpre
  have X := bs.K.keeps stg
  have Tp := bs.T.keeps stg
  have hfn := hEf _ hex
  have hSL := hideS hsh.have hL
  obtain ⟨oT, kvs, vs, c, cod, N, O⟩ := (hsh.keeps st₁).own F hSL
  have hSf' : ∀ b ∈ shS T G, b ∉ frs (envX convQual (stScope convStmt) L f' (Value.ref c') [] :: fr) := fun b hb hm => by
    rcases List.mem_cons.mp hm with e | hm
    · exact (hSL b hb).2 e
    · exact hSf b hb hm
  k_steps
  show wpAny _ _ (call _ _ _) _ _ _
  rename Fr _ _ _ _ => F'
  rename News _ _ _ _ => N'
  have kp : KeepBut (shS T G) s.heap h₁ := KeepBut.of_stays st₁
  refine use_calls (hfa x tn) B F' rfl rfl hSf' ⟨O.sh F'.keep (N' _ (.head _)).1 (N' _ (.tail _ (.head _))).1 fun z hz => (N' z (.tail _ (.tail _ hz))).1, hEx _ _ hex (hide_again F'.keep)⟩ hh (by omega) (by omega) ?_ ?_
  · rintro r h₂ tk₂ k₂ ⟨x', t₂, hx', rfl, hs₂⟩
    have F₂ := fr_but F' k₂ hSL
    obtain ⟨oT₂, kvs₂, vs₂, c₂, cod₂, N₂, O₂⟩ := hs₂.own F₂ hSL
    have ff₂ := (pushX (env := envX convQual (stScope convStmt) L f' (Value.ref c') []) B F₂ rfl rfl).frames
    clear F' N' O
    have hmap : h₂.MapOf (strKind PySem.Challenge.pw_dw0016_02 w) T (valueAt kvs₂) := (Heap.dictOf_iff.mpr ⟨oT₂, (N₂ _ (.head _)).1, O₂.d⟩).mapOf
    obtain ⟨v1, v2⟩ := O₂.kv.at n
    k_steps
    by_cases hm : n ∈ x'
    · obtain ⟨tv, hv⟩ := v1 hm
      refine dict_at hmap hv ?_
      k_steps
      show wpAny _ _ (call _ _ _) _ _ _
      refine use_calls (lam35 bs hD) B F₂ rfl rfl (fun b hb => nomatch hb) trivial hh (by omega) (by omega) ?_ (fun _ _ _ _ U => let ⟨_, _, _, _, e, _⟩ := U; e.elim)
      rintro r h₃ tk₃ k₃ ⟨t₃, rfl⟩
      have st₃ : h₂.StaysIn h₃ := fun b o e => k₃ b o (fun m => nomatch m) e
      have F₃ := F₂.keeps st₃
      have N₃ := N₂.keeps st₃
      clear F₂ N₂
      rw [show Str.empty ++ n = n from Str.empty_append n]
      k_steps
      exact Out.mk F₃.keep ⟨x', _, by simp only [asks, hx', if_pos hm], rfl, O₂.sh F₃.keep (N₃ _ (.head _)).1 (N₃ _ (.tail _ (.head _))).1 fun z hz => (N₃ z (.tail _ (.tail _ hz))).1⟩
    · refine dict_not hT hh hmap (v2 hm) fun h' e hx => ?_
      dsimp only at hx ⊢
      refine made_leave (S := shS T G) (Er := TellEr w D T G (asks cl n x) n) hA rfl (Nat.le_of_eq hL.symm) (kp.trans k₂) ff₂ hx ⟨x', by simp only [asks, hx', if_neg hm], hs₂.hide ff₂ hSf'⟩ fun h'' U => ?_
      exact ⟨n, e, h'', _, rfl, rfl, U⟩
  · intro y e h₂ tk₂ U
    refine up_leave (h := s.heap) hA rfl (Nat.le_of_eq hL.symm) kp rfl U fun h'' U' => ?_
    exact ⟨y, e, h'', _, rfl, rfl, U'.more (fun b hb => hb) fun B ⟨x', e1, e2⟩ => ⟨x', by simp only [asks, e1], e2⟩⟩
end Mine
end -- E4
section -- E5
open PySem PySem.W PyProof.Rows PySem.Calls PySem.Spec
set_option maxHeartbeats 8000000
namespace Mine
variable {w : World} {base : Heap} {p : Program} {loose : List Str} {mean : ExcName → Option Value} {mg mb : Str → Option Value}
local macro_rules | `(tactic| walk_at "makeTail stmts cons ref none none") => `(tactic| refine Mine.Stop.mk ?_)
local macro_rules | `(tactic| k_room) => `(tactic| ((have hRL9 : recursionLimit = 1000 := rfl); (simp only [depth_under_make, depth_under_kw, depth_in1, depth_deeper, depth_caller] at *); omega))
noncomputable abbrev favBinds2 (aArgs T fa fva fvk : Addr) (va vk : Value) : List (Str × Value) := [(Str.ofString "args", .ref aArgs), (Str.ofString "varargs", va), (Str.ofString "varkw", vk), (Str.ofString "locals", .ref T), (Str.ofString "formatarg", .ref fa), (Str.ofString "formatvarargs", .ref fva), (Str.ofString "formatvarkw", .ref fvk), (Str.ofString "formatvalue", .ref 35)]
theorem news_but {h₀ h h₂ : Heap} {L : Addr} {S : List Addr} {loc : List (Addr × Obj)} (N : News h₀ L h loc) (hl : ∀ q ∈ loc, q.1 ∉ S) (k : KeepBut S h h₂) : News h₀ L h₂ loc := fun q hq => ⟨k _ _ (hl q hq) (N q hq).1, (N q hq).2⟩
noncomputable def pieces (D : Str → Int) (names : List Str) (oa ok : Option Str) : List Str := names.map (fun n => n ++ dueText D n) ++ (oa.toList.map fun n => Str.ofString "*" ++ n ++ dueText D n) ++ (ok.toList.map fun n => Str.ofString "**" ++ n ++ dueText D n)
noncomputable def favNames (names : List Str) (oa ok : Option Str) : List Str := names ++ oa.toList ++ ok.toList
theorem dueText_len {D : Str → Int} {n : Str} (hD : -(2 ^ 100) < D n ∧ D n < 2 ^ 100) : (dueText D n).length ≤ 1010 := by
  have := int_len hD
  show (Str.ofString "=" ++ Str.ofString (toString (D n))).length ≤ 1010
  rw [Str.length_append, show (Str.ofString "=").length = 1 from rfl]; omega
theorem pieces_len {D : Str → Int} {names : List Str} {oa ok : Option Str} (hD : ∀ n, -(2 ^ 100) < D n ∧ D n < 2 ^ 100) (h1 : ∀ n ∈ favNames names oa ok, n.length ≤ 100) : ∀ y ∈ pieces D names oa ok, y.length ≤ 10200 := by
  intro y hy
  unfold pieces at hy
  unfold favNames at h1
  have e1 : (Str.ofString "*").length = 1 := rfl
  have e2 : (Str.ofString "**").length = 2 := rfl
  rcases List.mem_append.mp hy with hy | hy
  · rcases List.mem_append.mp hy with hy | hy
    · obtain ⟨n, hn, rfl⟩ := List.mem_map.mp hy
      have := h1 n (List.mem_append_left _ (List.mem_append_left _ hn)); have := dueText_len (hD n); rw [Str.length_append]; omega
    · obtain ⟨n, hn, rfl⟩ := List.mem_map.mp hy
      have := h1 n (List.mem_append_left _ (List.mem_append_right _ hn)); have := dueText_len (hD n); rw [Str.length_append, Str.length_append]; omega
  · obtain ⟨n, hn, rfl⟩ := List.mem_map.mp hy
    have := h1 n (List.mem_append_right _ hn); have := dueText_len (hD n); rw [Str.length_append, Str.length_append]; omega
structure FavSt (w : World) (D : Str → Int) (T G : Addr) (h₀ : Heap) (c' : Addr) (x : List Str) (tl : List (Addr × Obj)) (oT : Obj) (kvs : List (Str × Value)) (lvs : List Value) : Prop where
  O : OwnSt w D T G h₀ x oT kvs lvs tl
  r : RecOk h₀ c' convQual tl
theorem fav_def (bs : Base1 w base p loose mean mg mb) {T G : Addr} {D : Str → Int} {Ex : Heap → Prop} {aArgs fa fva fvk : Addr} {va vk : Value} {x : List Str} {fr : List Env} {A : Around} {s : Shared} {L : Addr} {h₁ : Heap} {Q : Flow → Shared → Prop} {E : Value → Shared → Prop} {tk : Nat}
    (hb : ∀ b ∈ shS T G, base.get? b = none) (hsh : Sh w D T G x s.heap) (stg : base.StaysIn (hideAll s.heap (shS T G))) (B : Below A base fr (hideAll s.heap (shS T G))) (F : Fr (hideAll s.heap (shS T G)) L h₁ (fun y => (favBinds2 aArgs T fa fva fvk va vk).reverse.lookup y)) (st₁ : s.heap.StaysIn h₁) (hL : L = s.heap.objs.size) (hh : A.handled = none) (hroom : A.depth + 4 < recursionLimit) (hu : A.units + 40 < cLine)
    (h : ∀ f' t' c' ctv doc oT kvs lvs lc tl h' tk', Fr (hideAll s.heap (shS T G)) L h' (fun y => if y = Str.ofString "convert" then some (.ref f') else (favBinds2 aArgs T fa fva fvk va vk).reverse.lookup y) →
      News (hideAll s.heap (shS T G)) L h' ((f', convObj ((mg (Str.ofString "__name__")).getD Value.none) t' doc c' ctv) :: (t', kdv_tup [.ref T, .ref fa, .ref 35]) :: (T, oT) :: (G, W.listOf (List.toArray lvs) lc) :: tl) →
      FavSt w D T G (hideAll s.heap (shS T G)) c' x tl oT kvs lvs → t' < f' → f' ∉ shS T G → t' ∉ shS T G → Q .next { s with heap := h', toks := tk' }) :
    wpAny (model PySem.Challenge.pw_dw0016_02 w) (A.deeper (envOf (Str.ofString "formatargvalues") (stScope favStmt) L 43 (.ref 42))) (exec (nth (stBody favStmt) 0) (envOf (Str.ofString "formatargvalues") (stScope favStmt) L 43 (.ref 42))) Q E { s with heap := h₁, toks := tk } := by
  have X := bs.K.keeps stg
  have Tp := bs.T.keeps stg
  have C := bs.C.keeps stg
  have hSL := hideS hsh.have hL
  obtain ⟨oT, kvs, lvs, lc, cod, N, O⟩ := (hsh.keeps st₁).own F hSL
  conv in (nth (stBody favStmt) 0) => whnf
  k_steps
  show wpAny _ _ (makeTail _ _ _ _ _ _ _ _ _ _ _) _ _ _
  rename News _ _ _ _ => N'
  rename Fr _ _ _ _ => F'
  rename Addr => t'
  have lt := ‹T < t' ∧ G < t' ∧ AllLt t' cod›
  have hsa : Sh w D T G x _ := O.sh F'.keep (N' _ (.tail _ (.head _))).1 (N' _ (.tail _ (.tail _ (.head _)))).1 fun z hz => (N' z (.tail _ (.tail _ (.tail _ hz)))).1
  have ht := (N' _ (.head _))
  have htS : t' ∉ shS T G := hsa.notS ht.1 (Nat.ne_of_gt lt.1) (Nat.ne_of_gt lt.2.1) (fun vs e => by cases e)
  refine mk_fun (qual := convQual) F' Tp C rfl (hSL 38 (by simp [shS])).1 (hSL 38 (by simp [shS])).2 hsa.c38 rfl ?_
  intro f' c' ctv doc h' tk' kb F₂ hlt hf hge hr hct
  have hs₂ : Sh w D T G x h' := hsa.keep38 kb hct
  have hfL : L < f' := Nat.lt_of_lt_of_le F'.ns.lt hge
  have hf0 : (hideAll s.heap (shS T G)).get? f' = none := Heap.get?_none_of_le (Nat.le_trans F₂.above (Nat.le_of_lt hfL))
  have ht38 : t' ≠ 38 := fun e => htS (by rw [e]; simp [shS])
  have htf : t' < f' := hlt _ _ ht.1
  have hfS : f' ∉ shS T G := hs₂.notS hf (Nat.ne_of_gt (Nat.lt_trans lt.1 htf)) (Nat.ne_of_gt (Nat.lt_trans lt.2.1 htf)) (fun vs e => by cases e)
  have Nl : News (hideAll s.heap (shS T G)) L h' [(f', convObj ((mg (Str.ofString "__name__")).getD Value.none) t' doc c' ctv), (t', kdv_tup [.ref T, .ref fa, .ref 35])] := news_cons ⟨hf, Nat.ne_of_gt hfL, hf0⟩ (news_cons ⟨kb _ _ (fun m => ht38 (List.mem_singleton.mp m)) ht.1, ht.2⟩ News.nil)
  obtain ⟨oT₂, kvs₂, lvs₂, lc₂, tl, N₂, O₂, r₂⟩ := start_own F₂ Nl hs₂ hr hSL
  clear N' N F F'
  replace N₂ : News (hideAll s.heap (shS T G)) L h' ((f', convObj ((mg (Str.ofString "__name__")).getD Value.none) t' doc c' ctv) :: (t', kdv_tup [.ref T, .ref fa, .ref 35]) :: (T, oT₂) :: (G, W.listOf (List.toArray lvs₂) lc₂) :: tl) := N₂
  dsimp only
  k_steps
  rename News _ _ _ _ => N'
  rename Fr _ _ _ _ => F'
  exact h _ _ _ _ _ _ _ _ _ _ _ _ F' N' ⟨O₂, r₂⟩ htf hfS htS
end Mine
end -- E5
section -- B4
open PySem PySem.W PyProof.Rows PySem.Calls PySem.Spec
namespace Mine
section
variable {prog : Program} {w : World} {A : Around} {E : Value → Shared → Prop} {s : Shared} {env : Env} {h₀ : Heap} {x : Str} {body : List Stmt} {Q : Flow → Shared → Prop}
/-- a walk whose footprint is its iterator and what stands in h₀ -/
theorem loop_of_walkC (IP : Obj → Prop) {I : Addr} {fp : List Addr} {n : Nat} {P : Nat → Value → Prop} {St : Nat → Heap → Prop} {m₀ : Str → Option Value} {news : List (Addr × Obj)} {s₂ : Shared}
    (W : Walks prog w A I fp [I] n P St) (J : Nat → (Str → Option Value) → List (Addr × Obj) → Prop) (hI : I ∈ fp) (hfp : ∀ b ∈ fp, b ≠ I → ∃ o, h₀.get? b = some o)
    (hs : ∃ h tk, s₂ = { s with heap := h, toks := tk }) (hst : St 0 s₂.heap) (F : Fr h₀ env.locals s₂.heap m₀) (N : News h₀ env.locals s₂.heap news) (hIL : I ≠ env.locals) (hI0 : h₀.get? I = none) (hIo : ∃ o, s₂.heap.get? I = some o) (hIn : ∀ p ∈ news, p.1 ≠ I) (hj : J 0 m₀ news)
    (hIs : ∀ i h, St i h → ∃ o, h.get? I = some o ∧ IP o)
    (turn : ∀ i v m₁ news₁ h tk io, i < n → P i v → J i m₁ news₁ → IP io → (∀ p ∈ news₁, p.1 ≠ I) → Fr h₀ env.locals h (fun y => if y = x then some v else m₁ y) → News h₀ env.locals h ((I, io) :: news₁) →
      wpAny (model prog w) A (execs body env) (TurnEnd h₀ env.locals s Q I io (J (i + 1))) E { s with heap := h, toks := tk })
    (done : ∀ m₁ news₁ h tk, J n m₁ news₁ → Fr h₀ env.locals h m₁ → News h₀ env.locals h news₁ → Q .next { s with heap := h, toks := tk }) :
    LoopAtV prog w A h₀ env x body Q E (.ref I) s₂ := by
  obtain ⟨h, tk, rfl⟩ := hs
  have hLfp : env.locals ∉ fp := fun hm => by
    by_cases q : env.locals = I
    · exact hIL q.symm
    · obtain ⟨o, ho⟩ := hfp _ hm q
      exact absurd (Nat.lt_of_lt_of_le (Heap.lt_size ho) F.above) (Nat.lt_irrefl _)
  refine ⟨I, fp, [I], n, P, St, m₀, news, J, rfl, W, hLfp, fun b hb => by rw [List.mem_singleton.mp hb]; exact hI0, fun p hp hm => hIn p hp (List.mem_singleton.mp hm), hst, F, N, hj, ?_, fun h' tk' m' news' F' N' _ hJ => done m' news' h' tk' hJ F' N'⟩
  rintro i v m₁ news₁ s₁ own ⟨h₁, tk₁, rfl⟩ hi hP hJ hnw hown hget hall hst₁ F₁ N₁
  obtain ⟨io, hio, hip⟩ := hIs _ _ hst₁
  have hmem : (I, io) ∈ own := hall I hI hI0 io hio
  have hsub : ∀ q ∈ own, q = (I, io) := fun q hq => by
    have h2 := N₁ q (List.mem_append_left _ hq)
    by_cases e : q.1 = I
    · have h3 := hget q hq
      rw [e, hio] at h3
      cases q; cases e; cases h3; rfl
    · obtain ⟨o, ho⟩ := hfp _ (hown q hq) e
      rw [h2.2.2] at ho; cases ho
  refine wpAny_mono (turn i v m₁ news₁ h₁ tk₁ io hi hP hJ hip (fun p hp e => hnw p hp (List.mem_singleton.mpr e)) F₁ fun q hq => ?_) (fun f s₃ e => ?_) fun _ _ e => e
  · rcases List.mem_cons.mp hq with rfl | hq
    · exact N₁ _ (List.mem_append_left _ hmem)
    · exact N₁ q (List.mem_append_right _ hq)
  · have fin : (∃ h' tk m' news', s₃ = { s with heap := h', toks := tk } ∧ Fr h₀ env.locals h' m' ∧ News h₀ env.locals h' ((I, io) :: news') ∧ (∀ p ∈ news', p.1 ≠ I) ∧ J (i + 1) m' news') →
        LoopStepU h₀ env.locals [I] own (J (i + 1)) { s with heap := h₁, toks := tk₁ } .next s₃ := by
      rintro ⟨h', tk, m', news', rfl, F', N', hn, hm⟩
      exact ⟨rfl, h', tk, m', news', rfl, F', fun p hp => (List.mem_append.mp hp).elim (fun q => by rw [hsub p q]; exact N' _ (.head _)) fun q => N' p (.tail _ q), fun p hp hm => hn p hp (List.mem_singleton.mp hm), hm⟩
    cases f with
    | ret v => exact .ret e
    | brk => exact .brk e
    | next => exact .next (fin e)
    | cont => exact .cont (fin e)
/-- the iterator is no code record -/
noncomputable def NoCode (o : Obj) : Prop := ∀ fv, o.data = .fields fv → ∀ x t, fv[1]? ≠ some (Value.str x t)
theorem range_loopC {r : Addr} {n : Nat} {t u v : Tok} {m₀ : Str → Option Value} {news : List (Addr × Obj)} (J : Nat → (Str → Option Value) → List (Addr × Obj) → Prop)
    (hh : A.handled = none) (hr : IsRange s.heap r 0 n 1 t u v) (hn : n < 2 ^ 60) (F : Fr h₀ env.locals s.heap m₀) (N : News h₀ env.locals s.heap news) (hj : J 0 m₀ news)
    (turn : ∀ i t m₁ news₁ h tk I io, i < n → J i m₁ news₁ → NoCode io → (∀ p ∈ news₁, p.1 ≠ I) → Fr h₀ env.locals h (fun y => if y = x then some (.int (i : Int) t) else m₁ y) → News h₀ env.locals h ((I, io) :: news₁) →
      wpAny (model prog w) A (execs body env) (TurnEnd h₀ env.locals s Q I io (J (i + 1))) E { s with heap := h, toks := tk })
    (done : ∀ m₁ news₁ h tk, J n m₁ news₁ → Fr h₀ env.locals h m₁ → News h₀ env.locals h news₁ → Q .next { s with heap := h, toks := tk }) :
    wpAny (model prog w) A (pyIter (.ref r)) (fun it s₂ => LoopAtV prog w A h₀ env x body Q E it s₂) E s := by
  have hsm : Builtin.Range.small 0 n 1 = true := small_one (by omega) (by omega) (by omega) (by omega)
  have hsz : Builtin.Range.rangeSize 0 n 1 = n := by
    unfold Builtin.Range.rangeSize
    rw [if_pos (by decide)]
    split <;> omega
  refine wpAny_pyIter_range hr hsm ?_
  rw [hsz]
  refine loop_of_walkC NoCode (Walks.range hh s.heap.objs.size 0 1 n) J (.head _) (fun b hb e => absurd (List.mem_singleton.mp hb) e) ⟨_, _, rfl⟩ ?_ (F.push _) (fun p hp => ⟨Heap.get?_push_of_some _ (N p hp).1, (N p hp).2⟩) (Nat.ne_of_gt F.ns.lt) (next_is_new F) ⟨_, Heap.get?_push_size _ rfl⟩
    (fun p hp => Nat.ne_of_lt (Heap.lt_size (N p hp).1)) hj (fun i h e => ⟨_, e, fun fv hf x t => by cases hf; simp [rawInt]⟩) ?_ done
  · have := Heap.get?_push_size s.heap (o := { cls := .type "range_iterator", data := .fields #[rawInt 0, rawInt n, rawInt 1] }) rfl
    simpa [IsRangeIter] using this
  · rintro i v m₁ news₁ h tk io hi ⟨t, rfl⟩ hJ hip hne F₁ N₁
    have := turn i t m₁ news₁ h tk s.heap.objs.size io hi hJ hip hne
    simp only [Int.mul_one, Int.zero_add] at F₁
    exact this F₁ N₁
end
end Mine
end -- B4
section -- E6
open PySem PySem.W PyProof.Rows PySem.Calls PySem.Spec
set_option maxHeartbeats 8000000
namespace Mine
variable {w : World} {base : Heap} {p : Program} {loose : List Str} {mean : ExcName → Option Value} {mg mb : Str → Option Value}
local macro_rules | `(tactic| walk_at "subscriptTail Name Name ref int") => `(tactic| refine Mine.Stop.mk ?_)
local macro_rules | `(tactic| walk_at "call builtin:list.append cons nil") => `(tactic| refine Mine.Stop.mk ?_)
local macro_rules | `(tactic| walk_at "call builtin:len cons nil") => `(tactic| refine Mine.Stop.mk ?_)
local macro_rules | `(tactic| walk_at "call ref cons nil") => `(tactic| refine Mine.Stop.mk ?_)
local macro_rules | `(tactic| walk_at "pyIter ref") => `(tactic| refine Mine.Stop.mk ?_)
local macro_rules | `(tactic| k_room) => `(tactic| ((have hRL9 : recursionLimit = 1000 := rfl); (simp only [depth_under_make, depth_under_kw, depth_in1, depth_deeper, depth_caller] at *); omega))
local macro_rules | `(tactic| walk_at "callWith ref") => `(tactic| (refine callWith_F (Mine.FnAt_keeps (by assumption) (Fr.keep (by assumption))) ?_))
local macro_rules | `(tactic| walk_at "FnAt") => `(tactic| (exact Mine.FnAt_keeps (by assumption) (Fr.keep (by assumption))))
noncomputable abbrev favEnv (L : Addr) : Env := envOf (Str.ofString "formatargvalues") (stScope favStmt) L 43 (.ref 42)
noncomputable abbrev FavE (w : World) (D : Str → Int) (T G : Addr) (res : Res) (A : Around) (fr : List Env) (s : Shared) (L : Addr) : Value → Shared → Prop := fun e s' => wpAny (model PySem.Challenge.pw_dw0016_02 w) (A.deeper (favEnv L)) (leaving (favEnv L) e) (fun _ s'' => OutE s (shS T G) (TellEr w D T G res) fr s.heap e s'') (fun e' s'' => OutE s (shS T G) (TellEr w D T G res) fr s.heap e' s'') s'
structure FavFx (T G sp f' t' : Addr) : Prop where
  tf : t' < f'
  fs : f' < sp
  Ts : T < sp
  Gs : G < sp
  fS : f' ∉ shS T G
  tS : t' ∉ shS T G
  sS : sp ∉ shS T G
noncomputable abbrev favMap (aArgs T fa fva fvk sp f' : Addr) (va vk : Value) (u : Option Value) : Str → Option Value := fun y => if y = Str.ofString "i" then u else if y = Str.ofString "specs" then some (Value.ref sp) else if y = Str.ofString "convert" then some (Value.ref f') else (favBinds2 aArgs T fa fva fvk va vk).reverse.lookup y
noncomputable abbrev favNews (T G sp f' t' fa c' : Addr) (ctv doc pm : Value) (oT : Obj) (lvs vs' : List Value) (lc k : Nat) (tl : List (Addr × Obj)) : List (Addr × Obj) := (sp, W.listOf (List.toArray vs') k) :: (f', convObj pm t' doc c' ctv) :: (t', kdv_tup [.ref T, .ref fa, .ref 35]) :: (T, oT) :: (G, W.listOf (List.toArray lvs) lc) :: tl
theorem iter_ne {w : World} {D : Str → Int} {T G I : Addr} {h₀ h : Heap} {x : List Str} {oT io : Obj} {kvs : List (Str × Value)} {lvs : List Value} {tl : List (Addr × Obj)} (O : OwnSt w D T G h₀ x oT kvs lvs tl) (hI : h.get? I = some io) (hn : NoCode io) (hne : ∀ b ∈ shS T G, I ≠ b) : ∀ q ∈ tl, h.get? q.1 = some q.2 → q.1 ≠ I := fun q hq hg e => by
  rcases O.who q hq with a | a | ⟨qq, fv, t, a, b⟩
  · exact hne 38 (by simp [shS]) (e ▸ a)
  · exact hne 50 (by simp [shS]) (e ▸ a)
  · rw [e, hI] at hg
    rw [← Option.some.inj hg] at a
    exact hn fv a _ _ b
theorem fav_loop (bs : Base1 w base p loose mean mg mb) {T G : Addr} {D : Str → Int} {Ex : Heap → Prop} {aArgs fa fva fvk sp f' t' c' : Addr} {ctv doc pm va vk : Value} {vs : List Value} {names : List Str} {oa ok : Option Str} {x : List Str} {fr : List Env} {A : Around} {s : Shared} {L : Addr} {h : Heap} {Q : Flow → Shared → Prop} {tk dv uv : Nat} {cl : Str → List Str → Res}
    {oT : Obj} {kvs : List (Str × Value)} {lvs : List Value} {lc : Nat} {tl : List (Addr × Obj)}
    (hT : (T == sysModules) = false) (hb : ∀ b ∈ shS T G, base.get? b = none) (hEx : ∀ h h', Ex h → h.StaysIn h' → Ex h') (hEf : ∀ h, Ex h → FnAt fa h) (hvs : StrsAre vs names) (hlen : names.length ≤ 100) (hnl : ∀ x ∈ names, x.length ≤ 100) (hD : ∀ n, -(2 ^ 100) < D n ∧ D n < 2 ^ 100)
    (hfa : ∀ n ∈ names, ∀ x t, Calls PySem.Challenge.pw_dw0016_02 w base (shS T G) (dv + 1) uv (fun h => Sh w D T G x h ∧ Ex (hideAll h (shS T G))) (.ref fa) [.str n t] [] (TellOk w D T G Str.empty n (cl n x)) (TellEr w D T G (cl n x)))
    (hsh : Sh w D T G x s.heap) (hSf : ∀ b ∈ shS T G, b ∉ frs fr) (hA : A.frames = some fr) (hargs : (hideAll s.heap (shS T G)).IsList aArgs vs.toArray) (hex : Ex (hideAll s.heap (shS T G)))
    (stg : base.StaysIn (hideAll s.heap (shS T G))) (B : Below A base fr (hideAll s.heap (shS T G))) (hL : L = s.heap.objs.size) (hh : A.handled = none) (hroom : A.depth + (dv + 5) < recursionLimit) (hu : A.units + (uv + 40) < cLine)
    (fx : FavFx T G sp f' t') (F : Fr (hideAll s.heap (shS T G)) L h (favMap aArgs T fa fva fvk sp f' va vk none)) (N : News (hideAll s.heap (shS T G)) L h (favNews T G sp f' t' fa c' ctv doc pm oT lvs [] lc 0 tl)) (S₀ : FavSt w D T G (hideAll s.heap (shS T G)) c' x tl oT kvs lvs)
    (k : ∀ u vs' k' x' oT kvs lvs lc tl h' tk', Fr (hideAll s.heap (shS T G)) L h' (favMap aArgs T fa fva fvk sp f' va vk u) → News (hideAll s.heap (shS T G)) L h' (favNews T G sp f' t' fa c' ctv doc pm oT lvs vs' lc k' tl) → FavSt w D T G (hideAll s.heap (shS T G)) c' x' tl oT kvs lvs →
      foldV (asks cl) names x = .ok x' → StrsAre vs' (names.map fun n => n ++ dueText D n) → Q .next { s with heap := h', toks := tk' }) :
    wpAny (model PySem.Challenge.pw_dw0016_02 w) (A.deeper (favEnv L)) (exec (nth (stBody favStmt) 2) (favEnv L)) Q (FavE w D T G (foldV (asks cl) (favNames names oa ok) x) A fr s L) { s with heap := h, toks := tk } := by
  have X := bs.K.keeps stg
  have Tp := bs.T.keeps stg
  have C := bs.C.keeps stg
  have hSL := hideS hsh.have hL
  have hfn := hEf _ hex
  have hSf' : ∀ b ∈ shS T G, b ∉ frs (favEnv L :: fr) := fun b hb hm => by
    rcases List.mem_cons.mp hm with e | hm
    · exact (hSL b hb).2 e
    · exact hSf b hb hm
  conv in (nth (stBody favStmt) 2) => whnf
  refine For_invV (hideAll s.heap (shS T G)) rfl rfl ?_
  k_steps
  refine len_h0 hargs (by assumption) (by rw [hvs.1]; omega) ?_
  k_steps
  show wpAny _ _ (pyIter _) _ _ _
  rename News _ _ _ _ => N'
  rename Fr _ _ _ _ => F'
  rename IsRange _ _ _ _ _ _ _ _ => hr
  refine range_loopC (n := vs.length) (fun i m news => ∃ u vs' k x' oT kvs lvs lc tl, m = favMap aArgs T fa fva fvk sp f' va vk u ∧ news = favNews T G sp f' t' fa c' ctv doc pm oT lvs vs' lc k tl ∧ FavSt w D T G (hideAll s.heap (shS T G)) c' x' tl oT kvs lvs ∧
    foldV (asks cl) (names.take i) x = .ok x' ∧ StrsAre vs' ((names.take i).map fun n => n ++ dueText D n)) hh hr (by rw [hvs.1]; omega) F' N' ?_ ?_ ?_
  · exact ⟨none, [], 0, x, oT, kvs, lvs, lc, tl, rfl, rfl, S₀, rfl, StrsAre.nil⟩
  · rintro i t m₁ news₁ h tk I io hi ⟨u, vs', k, x', oT, kvs, lvs, lc, tl, rfl, rfl, ⟨O, r⟩, hl, hs⟩ hnc hne F₁ N₁
    clear F' N'
    have hi' : i < names.length := by rw [← hvs.1]; exact hi
    obtain ⟨tx, hx⟩ := hvs.2 i names[i] (by simp [hi'])
    replace F₁ : Fr (hideAll s.heap (shS T G)) L h (fun y => if y = Str.ofString "i" then some (Value.int i t) else favMap aArgs T fa fva fvk sp f' va vk u y) := F₁
    replace N₁ : News (hideAll s.heap (shS T G)) L h ((I, io) :: favNews T G sp f' t' fa c' ctv doc pm oT lvs vs' lc k tl) := N₁
    have hne' : ∀ b ∈ shS T G, I ≠ b := fun b hb e => by
      obtain ⟨o1, h1⟩ := O.i38
      obtain ⟨o2, h2⟩ := O.i50
      simp only [shS, List.mem_cons, List.not_mem_nil, or_false] at hb
      rcases hb with rfl | rfl | rfl | rfl
      · exact hne _ (.tail _ (.tail _ (.tail _ (.head _)))) e.symm
      · exact hne _ (.tail _ (.tail _ (.tail _ (.tail _ (.head _))))) e.symm
      · exact hne _ (.tail _ (.tail _ (.tail _ (.tail _ (.tail _ h1))))) e.symm
      · exact hne _ (.tail _ (.tail _ (.tail _ (.tail _ (.tail _ h2))))) e.symm
    k_steps
    refine item_h0 hargs F₁ (by omega) hx ?_
    k_steps
    show wpAny _ _ (call _ _ _) _ _ _
    have hsx : Sh w D T G x' h := O.sh F₁.keep (N₁ _ (.tail _ (.tail _ (.tail _ (.tail _ (.head _)))))).1 (N₁ _ (.tail _ (.tail _ (.tail _ (.tail _ (.tail _ (.head _))))))).1 fun z hz => (N₁ z (.tail _ (.tail _ (.tail _ (.tail _ (.tail _ (.tail _ hz))))))).1
    have hrec : h.CodeRec (.ref c') convQual := r h F₁.keep fun z hz => (N₁ z (.tail _ (.tail _ (.tail _ (.tail _ (.tail _ (.tail _ hz))))))).1
    refine use_calls (conv2 (x := x') bs hT hb hEx hEf (hnl _ (List.getElem_mem hi')) (hD _) (hfa _ (List.getElem_mem hi'))) B F₁ rfl rfl hSf' ⟨(N₁ _ (.tail _ (.tail _ (.head _)))).1, (N₁ _ (.tail _ (.tail _ (.tail _ (.head _))))).1, hrec, hsx, hEx _ _ hex (hide_again F₁.keep)⟩ hh (by omega) (by omega) ?_ ?_
    · rintro r₂ h₂ tk₂ k₂ ⟨x'', t₂, hx'', rfl, hs₂⟩
      have F₂ := fr_but F₁ k₂ hSL
      have Nl : News (hideAll s.heap (shS T G)) L h₂ [(I, io), (sp, W.listOf (List.toArray vs') k), (f', convObj pm t' doc c' ctv), (t', kdv_tup [.ref T, .ref fa, .ref 35])] := news_but (news_sub N₁ fun z hz => by
          simp only [List.mem_cons, List.not_mem_nil, or_false] at hz ⊢
          rcases hz with rfl | rfl | rfl | rfl <;> simp) (fun q hq => by
          simp only [List.mem_cons, List.not_mem_nil, or_false] at hq
          rcases hq with rfl | rfl | rfl | rfl
          · exact fun hm => hne' _ hm rfl
          · exact fx.sS
          · exact fx.fS
          · exact fx.tS) k₂
      obtain ⟨oT₂, kvs₂, lvs₂, lc₂, tl₂, N₂, O₂, rc₂⟩ := start_own F₂ Nl hs₂ (codeRec_but hrec k₂ (hsx.codeNot hrec)) hSL
      replace N₂ : News (hideAll s.heap (shS T G)) L h₂ ((I, io) :: favNews T G sp f' t' fa c' ctv doc pm oT₂ lvs₂ vs' lc₂ k tl₂) := N₂
      have htl : ∀ z ∈ tl₂, z.1 ≠ sp := fun z hz e => by
        obtain ⟨_, _, fv, hf⟩ := O₂.nt z hz
        have h1 := (N₂ z (.tail _ (.tail _ (.tail _ (.tail _ (.tail _ (.tail _ hz))))))).1
        rw [e, (N₂ _ (.tail _ (.head _))).1] at h1
        rw [← Option.some.inj h1] at hf; cases hf
      clear F₁ N₁ hsx Nl
      k_steps
      refine append_K F₂ N₂ (Upd.tail ?_ (Upd.head ?_)) ?_ (by rw [List.size_toArray, hs.1, List.length_map, List.length_take]; have : sizeLine = 2 ^ 24 := rfl; omega)
      · exact Ne.symm (hne _ (.head _))
      · exact List.forall_mem_cons.mpr ⟨Nat.ne_of_lt fx.fs, List.forall_mem_cons.mpr ⟨Nat.ne_of_lt (Nat.lt_trans fx.tf fx.fs), List.forall_mem_cons.mpr ⟨Nat.ne_of_lt fx.Ts, List.forall_mem_cons.mpr ⟨Nat.ne_of_lt fx.Gs, htl⟩⟩⟩⟩
      intro h₃ F₃ N₃
      k_steps
      rw [List.push_toArray] at N₃
      refine ⟨h₃, _, _, _, rfl, F₃, N₃, ?_, some (.int i t), vs' ++ [Value.str (names[i] ++ dueText D names[i]) t₂], k + 1, x'', oT₂, kvs₂, lvs₂, lc₂, tl₂, ?_, rfl, ⟨O₂, rc₂⟩, ?_, ?_⟩
      · intro q hq
        rcases List.mem_cons.mp hq with rfl | hq
        · exact hne (sp, W.listOf vs'.toArray k) (.head _)
        · rcases List.mem_cons.mp hq with rfl | hq
          · exact hne _ (.tail _ (.head _))
          · rcases List.mem_cons.mp hq with rfl | hq
            · exact hne _ (.tail _ (.tail _ (.head _)))
            · rcases List.mem_cons.mp hq with rfl | hq
              · exact hne (T, oT) (.tail _ (.tail _ (.tail _ (.head _))))
              · rcases List.mem_cons.mp hq with rfl | hq
                · exact hne (G, W.listOf (List.toArray lvs) lc) (.tail _ (.tail _ (.tail _ (.tail _ (.head _)))))
                · exact iter_ne O₂ (N₃ _ (.head _)).1 hnc hne' q hq (N₃ _ (.tail _ (.tail _ (.tail _ (.tail _ (.tail _ (.tail _ hq))))))).1
      · funext y
        unfold favMap
        by_cases e : y = Str.ofString "i"
        · simp only [e, if_true]
        · simp only [e, if_false]
      · rw [take_snoc hi', foldV_snoc hl, hx'']
      · rw [take_snoc hi', List.map_append]; exact hs.snoc _ _
    · intro y e h₂ tk₂ U
      have U' := U.more (S' := shS T G) (Er' := TellEr w D T G (foldV (asks cl) (favNames names oa ok) x) y) (fun b hb => hb) fun B ⟨x'', e1, e2⟩ => ⟨x'', by
        have e3 : favNames names oa ok = names.take i ++ names[i] :: (names.drop (i + 1) ++ (oa.toList ++ ok.toList)) := by
          unfold favNames
          calc names ++ oa.toList ++ ok.toList = (names.take i ++ names[i] :: names.drop (i + 1)) ++ (oa.toList ++ ok.toList) := by rw [← take_split hi', List.append_assoc]
            _ = _ := by rw [List.append_assoc, List.cons_append]
        rw [e3]; exact foldV_err hl e1, e2⟩
      refine up_leave (h := s.heap) hA rfl (Nat.le_of_eq hL.symm) (KeepBut.of_hide F₁.keep) rfl U' fun h'' U'' => ?_
      exact ⟨y, e, h'', _, rfl, rfl, U''⟩
  · rintro m₁ news₁ h tk ⟨u, vs', k', x', oT, kvs, lvs, lc, tl, rfl, rfl, S₁, hl, hs⟩ F₃ N₃
    rw [hvs.1, List.take_of_length_le (Nat.le_refl _)] at hl hs
    exact k _ _ _ _ _ _ _ _ _ _ _ F₃ N₃ S₁ hl hs
end Mine
end -- E6
section -- E7
open PySem PySem.W PyProof.Rows PySem.Calls PySem.Spec
set_option maxHeartbeats 8000000
namespace Mine
variable {w : World} {base : Heap} {p : Program} {loose : List Str} {mean : ExcName → Option Value} {mg mb : Str → Option Value}
local macro_rules | `(tactic| walk_at "subscriptTail Name Name ref str") => `(tactic| refine Mine.Stop.mk ?_)
local macro_rules | `(tactic| walk_at "call builtin:list.append cons nil") => `(tactic| refine Mine.Stop.mk ?_)
local macro_rules | `(tactic| walk_at "call ref cons nil") => `(tactic| refine Mine.Stop.mk ?_)
local macro_rules | `(tactic| walk_at "truthy str") => `(tactic| refine Mine.Stop.mk ?_)
local macro_rules | `(tactic| k_room) => `(tactic| ((have hRL9 : recursionLimit = 1000 := rfl); (simp only [depth_under_make, depth_under_kw, depth_in1, depth_deeper, depth_caller] at *); omega))
local macro_rules | `(tactic| walk_at "callWith ref") => `(tactic| (refine callWith_F (Mine.FnAt_keeps (by assumption) (Fr.keep (by assumption))) ?_))
local macro_rules | `(tactic| walk_at "FnAt") => `(tactic| (exact Mine.FnAt_keeps (by assumption) (Fr.keep (by assumption))))
section
variable {T G : Addr} {D : Str → Int} {Ex : Heap → Prop} {aArgs fa fva fvk sp f' t' c' : Addr} {ctv doc pm va vk : Value} {u : Option Value} {vs' : List Value} {o : Option Str} {ns ls : List Str} {x x' : List Str} {res : Res} {fr : List Env} {A : Around} {s : Shared} {L : Addr} {h : Heap} {Q : Flow → Shared → Prop} {tk dv uv k' : Nat} {cl : Str → List Str → Res}
    {oT : Obj} {kvs : List (Str × Value)} {lvs : List Value} {lc : Nat} {tl : List (Addr × Obj)}
theorem fav_va (bs : Base1 w base p loose mean mg mb) (hT : (T == sysModules) = false) (hb : ∀ b ∈ shS T G, base.get? b = none) (hEx : ∀ h h', Ex h → h.StaysIn h' → Ex h') (hva : VarIs va o) (hEf : ∀ n, o = some n → ∀ h, Ex h → FnAt fva h) (hlen : ls.length ≤ 200) (hD : ∀ n, -(2 ^ 100) < D n ∧ D n < 2 ^ 100)
    (hfa : ∀ n, o = some n → ∀ x t, Calls PySem.Challenge.pw_dw0016_02 w base (shS T G) (dv + 1) uv (fun h => Sh w D T G x h ∧ Ex (hideAll h (shS T G))) (.ref fva) [.str n t] [] (TellOk w D T G (Str.ofString "*") n (cl n x)) (TellEr w D T G (cl n x)))
    (hsh : Sh w D T G x s.heap) (hSf : ∀ b ∈ shS T G, b ∉ frs fr) (hA : A.frames = some fr) (hex : Ex (hideAll s.heap (shS T G)))
    (stg : base.StaysIn (hideAll s.heap (shS T G))) (B : Below A base fr (hideAll s.heap (shS T G))) (hL : L = s.heap.objs.size) (hh : A.handled = none) (hroom : A.depth + (dv + 5) < recursionLimit) (hu : A.units + (uv + 40) < cLine)
    (hres : ∀ n, o = some n → ∀ e, foldV (asks cl) (ns ++ [n]) x = .error e → res = .error e)
    (fx : FavFx T G sp f' t') (F : Fr (hideAll s.heap (shS T G)) L h (favMap aArgs T fa fva fvk sp f' va vk u)) (N : News (hideAll s.heap (shS T G)) L h (favNews T G sp f' t' fa c' ctv doc pm oT lvs vs' lc k' tl)) (S₀ : FavSt w D T G (hideAll s.heap (shS T G)) c' x' tl oT kvs lvs) (hl : foldV (asks cl) ns x = .ok x') (hs : StrsAre vs' ls)
    (k : ∀ vs' k' x' oT kvs lvs lc tl h' tk', Fr (hideAll s.heap (shS T G)) L h' (favMap aArgs T fa fva fvk sp f' va vk u) → News (hideAll s.heap (shS T G)) L h' (favNews T G sp f' t' fa c' ctv doc pm oT lvs vs' lc k' tl) → FavSt w D T G (hideAll s.heap (shS T G)) c' x' tl oT kvs lvs →
      foldV (asks cl) (ns ++ o.toList) x = .ok x' → StrsAre vs' (ls ++ o.toList.map fun n => Str.ofString "*" ++ n ++ dueText D n) → Q .next { s with heap := h', toks := tk' }) :
    wpAny (model PySem.Challenge.pw_dw0016_02 w) (A.deeper (favEnv L)) (exec (nth (stBody favStmt) 3) (favEnv L)) Q (FavE w D T G res A fr s L) { s with heap := h, toks := tk } := by
  have X := bs.K.keeps stg
  have Tp := bs.T.keeps stg
  have C := bs.C.keeps stg
  have hSL := hideS hsh.have hL
  have hSf' : ∀ b ∈ shS T G, b ∉ frs (favEnv L :: fr) := fun b hb hm => by
    rcases List.mem_cons.mp hm with e | hm
    · exact (hSL b hb).2 e
    · exact hSf b hb hm
  conv in (nth (stBody favStmt) 3) => whnf
  rcases hva with ⟨rfl, hva⟩ | ⟨n, tn, rfl, rfl, hx0, hxl⟩
  · rcases hva with rfl | ⟨t₀, rfl⟩
    · k_steps
      exact k _ _ _ _ _ _ _ _ _ _ F N S₀ (by simpa using hl) (by simpa using hs)
    · k_steps
      show wpAny _ _ (truthy _) _ _ _
      refine KXt.truthy (b := false) (by decide +kernel) (by decide +kernel) fun kk => ?_
      k_steps
      exact k _ _ _ _ _ _ _ _ _ _ F N S₀ (by simpa using hl) (by simpa using hs)
  · have hfn := hEf n rfl _ hex
    k_steps
    show wpAny _ _ (truthy _) _ _ _
    refine KXt.truthy_pos (K := 100) hx0 hxl (by decide) fun kk => ?_
    k_steps
    show wpAny _ _ (call _ _ _) _ _ _
    have hsx : Sh w D T G x' h := S₀.O.sh F.keep (N _ (.tail _ (.tail _ (.tail _ (.head _))))).1 (N _ (.tail _ (.tail _ (.tail _ (.tail _ (.head _)))))).1 fun z hz => (N z (.tail _ (.tail _ (.tail _ (.tail _ (.tail _ hz)))))).1
    have hrec : h.CodeRec (.ref c') convQual := S₀.r h F.keep fun z hz => (N z (.tail _ (.tail _ (.tail _ (.tail _ (.tail _ hz)))))).1
    refine use_calls (hfa n rfl x' tn) B F rfl rfl hSf' ⟨hsx, hEx _ _ hex (hide_again F.keep)⟩ hh (by omega) (by omega) ?_ ?_
    · rintro r₂ h₂ tk₂ k₂ ⟨x'', t₂, hx'', rfl, hs₂⟩
      have F₂ := fr_but F k₂ hSL
      have Nl : News (hideAll s.heap (shS T G)) L h₂ [(sp, W.listOf (List.toArray vs') k'), (f', convObj pm t' doc c' ctv), (t', kdv_tup [.ref T, .ref fa, .ref 35])] := news_but (news_sub N fun z hz => by
          simp only [List.mem_cons, List.not_mem_nil, or_false] at hz ⊢
          rcases hz with rfl | rfl | rfl <;> simp) (fun q hq => by
          simp only [List.mem_cons, List.not_mem_nil, or_false] at hq
          rcases hq with rfl | rfl | rfl
          · exact fx.sS
          · exact fx.fS
          · exact fx.tS) k₂
      obtain ⟨oT₂, kvs₂, lvs₂, lc₂, tl₂, N₂, O₂, rc₂⟩ := start_own F₂ Nl hs₂ (codeRec_but hrec k₂ (hsx.codeNot hrec)) hSL
      replace N₂ : News (hideAll s.heap (shS T G)) L h₂ (favNews T G sp f' t' fa c' ctv doc pm oT₂ lvs₂ vs' lc₂ k' tl₂) := N₂
      have htl : ∀ z ∈ tl₂, z.1 ≠ sp := fun z hz e => by
        obtain ⟨_, _, fv, hf⟩ := O₂.nt z hz
        have h1 := (N₂ z (.tail _ (.tail _ (.tail _ (.tail _ (.tail _ hz)))))).1
        rw [e, (N₂ _ (.head _)).1] at h1
        rw [← Option.some.inj h1] at hf; cases hf
      have ff₂ := (pushX (env := favEnv L) B F₂ rfl rfl).frames
      have hmap : h₂.MapOf (strKind PySem.Challenge.pw_dw0016_02 w) T (valueAt kvs₂) := (Heap.dictOf_iff.mpr ⟨oT₂, (N₂ _ (.tail _ (.tail _ (.tail _ (.head _))))).1, O₂.d⟩).mapOf
      obtain ⟨v1, v2⟩ := O₂.kv.at n
      clear N hsx Nl
      k_steps
      by_cases hm : n ∈ x''
      · obtain ⟨tv, hv⟩ := v1 hm
        refine dict_at hmap hv ?_
        k_steps
        show wpAny _ _ (call _ _ _) _ _ _
        refine use_calls (lam35 bs (hD n)) B F₂ rfl rfl (fun b hb => nomatch hb) trivial hh (by omega) (by omega) ?_ (fun _ _ _ _ U => let ⟨_, _, _, _, e, _⟩ := U; e.elim)
        rintro r h₃ tk₃ k₃ ⟨t₃, rfl⟩
        have st₃ : h₂.StaysIn h₃ := fun b o e => k₃ b o (fun m => nomatch m) e
        have F₃ := F₂.keeps st₃
        have N₃ := N₂.keeps st₃
        clear F F₂ N₂
        have hDn := hD n
        k_steps
        show wpAny _ _ (call _ _ _) _ _ _
        unfold favNews at N₃
        refine append_K F₃ N₃ (Upd.head ?_) ?_ (by rw [List.size_toArray, hs.1]; have : sizeLine = 2 ^ 24 := rfl; omega)
        · exact List.forall_mem_cons.mpr ⟨Nat.ne_of_lt fx.fs, List.forall_mem_cons.mpr ⟨Nat.ne_of_lt (Nat.lt_trans fx.tf fx.fs), List.forall_mem_cons.mpr ⟨Nat.ne_of_lt fx.Ts, List.forall_mem_cons.mpr ⟨Nat.ne_of_lt fx.Gs, htl⟩⟩⟩⟩
        intro h₅ F₅ N₅
        k_steps
        rw [List.push_toArray] at N₅
        exact k _ _ _ _ _ _ _ _ _ _ F₅ N₅ ⟨O₂, rc₂⟩ (by rw [show (some n).toList = [n] from rfl, foldV_snoc hl]; simp only [asks, hx'', if_pos hm]) (hs.snoc _ _)
      · refine dict_not hT hh hmap (v2 hm) fun h' e hx => ?_
        dsimp only at hx ⊢
        refine made_leave (S := shS T G) (Er := TellEr w D T G res n) hA rfl (Nat.le_of_eq hL.symm) ((KeepBut.of_hide F.keep).trans k₂) ff₂ hx ⟨x'', hres n rfl _ (by rw [foldV_snoc hl]; simp only [asks, hx'', if_neg hm]), hs₂.hide ff₂ hSf'⟩ fun h'' U => ?_
        exact ⟨n, e, h'', _, rfl, rfl, U⟩
    · intro y e h₂ tk₂ U
      refine up_leave (h := s.heap) hA rfl (Nat.le_of_eq hL.symm) (KeepBut.of_hide F.keep) rfl U fun h'' U' => ?_
      exact ⟨y, e, h'', _, rfl, rfl, U'.more (fun b hb => hb) fun B ⟨x'', e1, e2⟩ => ⟨x'', hres n rfl _ (by rw [foldV_snoc hl]; simp only [asks, e1]), e2⟩⟩
end
end Mine
end -- E7
section -- E8
open PySem PySem.W PyProof.Rows PySem.Calls PySem.Spec
set_option maxHeartbeats 8000000
namespace Mine
local macro_rules | `(tactic| walk_at "no key of any") => `(tactic| skip)
variable {w : World} {base : Heap} {p : Program} {loose : List Str} {mean : ExcName → Option Value} {mg mb : Str → Option Value}
local macro_rules | `(tactic| walk_at "subscriptTail Name Name ref str") => `(tactic| refine Mine.Stop.mk ?_)
local macro_rules | `(tactic| walk_at "call builtin:list.append cons nil") => `(tactic| refine Mine.Stop.mk ?_)
local macro_rules | `(tactic| walk_at "call ref cons nil") => `(tactic| refine Mine.Stop.mk ?_)
local macro_rules | `(tactic| walk_at "truthy str") => `(tactic| refine Mine.Stop.mk ?_)
local macro_rules | `(tactic| k_room) => `(tactic| ((have hRL9 : recursionLimit = 1000 := rfl); (simp only [depth_under_make, depth_under_kw, depth_in1, depth_deeper, depth_caller] at *); omega))
local macro_rules | `(tactic| walk_at "callWith ref") => `(tactic| (refine callWith_F (Mine.FnAt_keeps (by assumption) (Fr.keep (by assumption))) ?_))
local macro_rules | `(tactic| walk_at "FnAt") => `(tactic| (exact Mine.FnAt_keeps (by assumption) (Fr.keep (by assumption))))
section
variable {T G : Addr} {D : Str → Int} {Ex : Heap → Prop} {aArgs fa fva fvk sp f' t' c' : Addr} {ctv doc pm va vk : Value} {u : Option Value} {vs' : List Value} {o : Option Str} {ns ls : List Str} {x x' : List Str} {res : Res} {fr : List Env} {A : Around} {s : Shared} {L : Addr} {h : Heap} {Q : Flow → Shared → Prop} {tk dv uv k' : Nat} {cl : Str → List Str → Res}
    {oT : Obj} {kvs : List (Str × Value)} {lvs : List Value} {lc : Nat} {tl : List (Addr × Obj)}
theorem fav_vk (bs : Base1 w base p loose mean mg mb) (hT : (T == sysModules) = false) (hb : ∀ b ∈ shS T G, base.get? b = none) (hEx : ∀ h h', Ex h → h.StaysIn h' → Ex h') (hva : VarIs vk o) (hEf : ∀ n, o = some n → ∀ h, Ex h → FnAt fvk h) (hlen : ls.length ≤ 200) (hD : ∀ n, -(2 ^ 100) < D n ∧ D n < 2 ^ 100)
    (hfa : ∀ n, o = some n → ∀ x t, Calls PySem.Challenge.pw_dw0016_02 w base (shS T G) (dv + 1) uv (fun h => Sh w D T G x h ∧ Ex (hideAll h (shS T G))) (.ref fvk) [.str n t] [] (TellOk w D T G (Str.ofString "**") n (cl n x)) (TellEr w D T G (cl n x)))
    (hsh : Sh w D T G x s.heap) (hSf : ∀ b ∈ shS T G, b ∉ frs fr) (hA : A.frames = some fr) (hex : Ex (hideAll s.heap (shS T G)))
    (stg : base.StaysIn (hideAll s.heap (shS T G))) (B : Below A base fr (hideAll s.heap (shS T G))) (hL : L = s.heap.objs.size) (hh : A.handled = none) (hroom : A.depth + (dv + 5) < recursionLimit) (hu : A.units + (uv + 40) < cLine)
    (hres : ∀ n, o = some n → ∀ e, foldV (asks cl) (ns ++ [n]) x = .error e → res = .error e)
    (fx : FavFx T G sp f' t') (F : Fr (hideAll s.heap (shS T G)) L h (favMap aArgs T fa fva fvk sp f' va vk u)) (N : News (hideAll s.heap (shS T G)) L h (favNews T G sp f' t' fa c' ctv doc pm oT lvs vs' lc k' tl)) (S₀ : FavSt w D T G (hideAll s.heap (shS T G)) c' x' tl oT kvs lvs) (hl : foldV (asks cl) ns x = .ok x') (hs : StrsAre vs' ls)
    (k : ∀ vs' k' x' oT kvs lvs lc tl h' tk', Fr (hideAll s.heap (shS T G)) L h' (favMap aArgs T fa fva fvk sp f' va vk u) → News (hideAll s.heap (shS T G)) L h' (favNews T G sp f' t' fa c' ctv doc pm oT lvs vs' lc k' tl) → FavSt w D T G (hideAll s.heap (shS T G)) c' x' tl oT kvs lvs →
      foldV (asks cl) (ns ++ o.toList) x = .ok x' → StrsAre vs' (ls ++ o.toList.map fun n => Str.ofString "**" ++ n ++ dueText D n) → Q .next { s with heap := h', toks := tk' }) :
    wpAny (model PySem.Challenge.pw_dw0016_02 w) (A.deeper (favEnv L)) (exec (nth (stBody favStmt) 4) (favEnv L)) Q (FavE w D T G res A fr s L) { s with heap := h, toks := tk } := by
  have X := bs.K.keeps stg
  have Tp := bs.T.keeps stg
  have C := bs.C.keeps stg
  have hSL := hideS hsh.have hL
  have hSf' : ∀ b ∈ shS T G, b ∉ frs (favEnv L :: fr) := fun b hb hm => by
    rcases List.mem_cons.mp hm with e | hm
    · exact (hSL b hb).2 e
    · exact hSf b hb hm
  conv in (nth (stBody favStmt) 4) => whnf
  rcases hva with ⟨rfl, hva⟩ | ⟨n, tn, rfl, rfl, hx0, hxl⟩
  · rcases hva with rfl | ⟨t₀, rfl⟩
    · k_steps
      exact k _ _ _ _ _ _ _ _ _ _ F N S₀ (by simpa using hl) (by simpa using hs)
    · k_steps
      show wpAny _ _ (truthy _) _ _ _
      refine KXt.truthy (b := false) (by decide +kernel) (by decide +kernel) fun kk => ?_
      k_steps
      exact k _ _ _ _ _ _ _ _ _ _ F N S₀ (by simpa using hl) (by simpa using hs)
  · have hfn := hEf n rfl _ hex
    k_steps
    show wpAny _ _ (truthy _) _ _ _
    refine KXt.truthy_pos (K := 100) hx0 hxl (by decide) fun kk => ?_
    k_steps
    show wpAny _ _ (call _ _ _) _ _ _
    have hsx : Sh w D T G x' h := S₀.O.sh F.keep (N _ (.tail _ (.tail _ (.tail _ (.head _))))).1 (N _ (.tail _ (.tail _ (.tail _ (.tail _ (.head _)))))).1 fun z hz => (N z (.tail _ (.tail _ (.tail _ (.tail _ (.tail _ hz)))))).1
    have hrec : h.CodeRec (.ref c') convQual := S₀.r h F.keep fun z hz => (N z (.tail _ (.tail _ (.tail _ (.tail _ (.tail _ hz)))))).1
    refine use_calls (hfa n rfl x' tn) B F rfl rfl hSf' ⟨hsx, hEx _ _ hex (hide_again F.keep)⟩ hh (by omega) (by omega) ?_ ?_
    · rintro r₂ h₂ tk₂ k₂ ⟨x'', t₂, hx'', rfl, hs₂⟩
      have F₂ := fr_but F k₂ hSL
      have Nl : News (hideAll s.heap (shS T G)) L h₂ [(sp, W.listOf (List.toArray vs') k'), (f', convObj pm t' doc c' ctv), (t', kdv_tup [.ref T, .ref fa, .ref 35])] := news_but (news_sub N fun z hz => by
          simp only [List.mem_cons, List.not_mem_nil, or_false] at hz ⊢
          rcases hz with rfl | rfl | rfl <;> simp) (fun q hq => by
          simp only [List.mem_cons, List.not_mem_nil, or_false] at hq
          rcases hq with rfl | rfl | rfl
          · exact fx.sS
          · exact fx.fS
          · exact fx.tS) k₂
      obtain ⟨oT₂, kvs₂, lvs₂, lc₂, tl₂, N₂, O₂, rc₂⟩ := start_own F₂ Nl hs₂ (codeRec_but hrec k₂ (hsx.codeNot hrec)) hSL
      replace N₂ : News (hideAll s.heap (shS T G)) L h₂ (favNews T G sp f' t' fa c' ctv doc pm oT₂ lvs₂ vs' lc₂ k' tl₂) := N₂
      have htl : ∀ z ∈ tl₂, z.1 ≠ sp := fun z hz e => by
        obtain ⟨_, _, fv, hf⟩ := O₂.nt z hz
        have h1 := (N₂ z (.tail _ (.tail _ (.tail _ (.tail _ (.tail _ hz)))))).1
        rw [e, (N₂ _ (.head _)).1] at h1
        rw [← Option.some.inj h1] at hf; cases hf
      have ff₂ := (pushX (env := favEnv L) B F₂ rfl rfl).frames
      have hmap : h₂.MapOf (strKind PySem.Challenge.pw_dw0016_02 w) T (valueAt kvs₂) := (Heap.dictOf_iff.mpr ⟨oT₂, (N₂ _ (.tail _ (.tail _ (.tail _ (.head _))))).1, O₂.d⟩).mapOf
      obtain ⟨v1, v2⟩ := O₂.kv.at n
      clear N hsx Nl
      k_steps
      by_cases hm : n ∈ x''
      · obtain ⟨tv, hv⟩ := v1 hm
        refine dict_at hmap hv ?_
        k_steps
        show wpAny _ _ (call _ _ _) _ _ _
        refine use_calls (lam35 bs (hD n)) B F₂ rfl rfl (fun b hb => nomatch hb) trivial hh (by omega) (by omega) ?_ (fun _ _ _ _ U => let ⟨_, _, _, _, e, _⟩ := U; e.elim)
        rintro r h₃ tk₃ k₃ ⟨t₃, rfl⟩
        have st₃ : h₂.StaysIn h₃ := fun b o e => k₃ b o (fun m => nomatch m) e
        have F₃ := F₂.keeps st₃
        have N₃ := N₂.keeps st₃
        clear F F₂ N₂
        have hDn := hD n
        k_steps
        show wpAny _ _ (call _ _ _) _ _ _
        unfold favNews at N₃
        refine append_K F₃ N₃ (Upd.head ?_) ?_ (by rw [List.size_toArray, hs.1]; have : sizeLine = 2 ^ 24 := rfl; omega)
        · exact List.forall_mem_cons.mpr ⟨Nat.ne_of_lt fx.fs, List.forall_mem_cons.mpr ⟨Nat.ne_of_lt (Nat.lt_trans fx.tf fx.fs), List.forall_mem_cons.mpr ⟨Nat.ne_of_lt fx.Ts, List.forall_mem_cons.mpr ⟨Nat.ne_of_lt fx.Gs, htl⟩⟩⟩⟩
        intro h₅ F₅ N₅
        k_steps
        rw [List.push_toArray] at N₅
        exact k _ _ _ _ _ _ _ _ _ _ F₅ N₅ ⟨O₂, rc₂⟩ (by rw [show (some n).toList = [n] from rfl, foldV_snoc hl]; simp only [asks, hx'', if_pos hm]) (hs.snoc _ _)
      · refine dict_not hT hh hmap (v2 hm) fun h' e hx => ?_
        dsimp only at hx ⊢
        refine made_leave (S := shS T G) (Er := TellEr w D T G res n) hA rfl (Nat.le_of_eq hL.symm) ((KeepBut.of_hide F.keep).trans k₂) ff₂ hx ⟨x'', hres n rfl _ (by rw [foldV_snoc hl]; simp only [asks, hx'', if_neg hm]), hs₂.hide ff₂ hSf'⟩ fun h'' U => ?_
        exact ⟨n, e, h'', _, rfl, rfl, U⟩
    · intro y e h₂ tk₂ U
      refine up_leave (h := s.heap) hA rfl (Nat.le_of_eq hL.symm) (KeepBut.of_hide F.keep) rfl U fun h'' U' => ?_
      exact ⟨y, e, h'', _, rfl, rfl, U'.more (fun b hb => hb) fun B ⟨x'', e1, e2⟩ => ⟨x'', hres n rfl _ (by rw [foldV_snoc hl]; simp only [asks, e1]), e2⟩⟩
end
end Mine
end -- E8
section -- E9
open PySem PySem.W PyProof.Rows PySem.Calls PySem.Spec
set_option maxHeartbeats 8000000
namespace Mine
variable {w : World} {base : Heap} {p : Program} {loose : List Str} {mean : ExcName → Option Value} {mg mb : Str → Option Value}
local macro_rules | `(tactic| walk_at "call builtin:str.join cons nil") => `(tactic| refine Mine.Stop.mk ?_)
local macro_rules | `(tactic| k_room) => `(tactic| ((have hRL9 : recursionLimit = 1000 := rfl); (simp only [depth_under_make, depth_under_kw, depth_in1, depth_deeper, depth_caller] at *); omega))
theorem strsAre_values {vs : List Value} {xs : List Str} (h : StrsAre vs xs) : ∃ l : List (Str × Tok), vs = strValues l ∧ l.map (·.1) = xs := by
  obtain ⟨h1, h2⟩ := h
  induction xs generalizing vs with
  | nil => exact ⟨[], by simpa [strValues] using h1, rfl⟩
  | cons x r ih =>
    cases vs with
    | nil => cases h1
    | cons v vs =>
      obtain ⟨l, e1, e2⟩ := ih (vs := vs) (by simpa using h1) (fun i y hy => by simpa using h2 (i + 1) y (by simpa using hy))
      obtain ⟨t, ht⟩ := h2 0 x rfl
      simp only [List.getElem?_cons_zero, Option.some.injEq] at ht
      exact ⟨(x, t) :: l, by simp [strValues, ht, e1], by simp [e2]⟩
theorem foldl_len (k : Nat) (l : List Str) (n : Nat) (h : ∀ x ∈ l, x.length ≤ n) : ∀ a, l.foldl (fun a x => a + x.length + k) a ≤ a + l.length * (n + k) := by
  induction l with
  | nil => intro a; simp
  | cons x r ih =>
    intro a
    rw [List.foldl_cons, List.length_cons, Nat.add_mul]
    have := ih (fun y hy => h y (.tail _ hy)) (a + x.length + k)
    have := h x (.head _)
    omega
theorem joinOk_of {l : List Str} (h : ∀ x ∈ l, x.length ≤ 10200) (hl : l.length ≤ 1000) : JoinOk (Str.ofString ", ") l = true := by
  unfold JoinOk
  rw [Bool.not_eq_true']
  unfold Builtin.Str.tooLong
  rw [decide_eq_false_iff_not, List.foldl_toArray]
  have := foldl_len 2 l 10200 h 0
  have e : (Str.ofString ", ").length = 2 := rfl
  have : sizeLine = 2 ^ 24 := rfl
  have : l.length * (10200 + 2) ≤ 1000 * (10200 + 2) := Nat.mul_le_mul_right _ hl
  rw [e]
  omega
theorem joinLen {l : List Str} (h : ∀ x ∈ l, x.length ≤ 10200) (hl : l.length ≤ 102) : (Txt.join (Str.ofString ", ") l).length ≤ 2000000 := by
  show (Builtin.Str.glued (Str.ofString ", ") l).length ≤ 2000000
  rw [StrLaws.glued_eq_join]
  have h1 := StrLaws.join_length_le (Str.ofString ", ") l
  have h2 := StrLaws.sumLen_le l h
  have e : (Str.ofString ", ").length = 2 := rfl
  rw [e] at h1
  have : l.length * 10200 ≤ 102 * 10200 := Nat.mul_le_mul_right _ hl
  omega
theorem fr_map {h₀ h : Heap} {L : Addr} {m m' : Str → Option Value} (F : Fr h₀ L h m) (e : ∀ y, m y = m' y) : Fr h₀ L h m' := (funext e : m = m') ▸ F
theorem fav2 (bs : Base1 w base p loose mean mg mb) {T G : Addr} {D : Str → Int} {Ex : Heap → Prop} {aArgs fa fva fvk : Addr} {va vk : Value} {vs : List Value} {names : List Str} {oa ok : Option Str} {x : List Str} {dv uv : Nat} {cl : Str → List Str → Res} {pos : List Value} {kw : List (Str × Value)}
    (hT : (T == sysModules) = false) (hb : ∀ b ∈ shS T G, base.get? b = none) (hEx : ∀ h h', Ex h → h.StaysIn h' → Ex h') (hva : VarIs va oa) (hvk : VarIs vk ok) (hvs : StrsAre vs names) (hlen : names.length ≤ 100) (hnl : ∀ n ∈ favNames names oa ok, n.length ≤ 100) (hD : ∀ n, -(2 ^ 100) < D n ∧ D n < 2 ^ 100)
    (hEf : ∀ h, Ex h → FnAt fa h) (hEv : ∀ n, oa = some n → ∀ h, Ex h → FnAt fva h) (hEk : ∀ n, ok = some n → ∀ h, Ex h → FnAt fvk h)
    (hfa : ∀ n ∈ names, ∀ x t, Calls PySem.Challenge.pw_dw0016_02 w base (shS T G) (dv + 1) uv (fun h => Sh w D T G x h ∧ Ex (hideAll h (shS T G))) (.ref fa) [.str n t] [] (TellOk w D T G Str.empty n (cl n x)) (TellEr w D T G (cl n x)))
    (hfv : ∀ n, oa = some n → ∀ x t, Calls PySem.Challenge.pw_dw0016_02 w base (shS T G) (dv + 1) uv (fun h => Sh w D T G x h ∧ Ex (hideAll h (shS T G))) (.ref fva) [.str n t] [] (TellOk w D T G (Str.ofString "*") n (cl n x)) (TellEr w D T G (cl n x)))
    (hfk : ∀ n, ok = some n → ∀ x t, Calls PySem.Challenge.pw_dw0016_02 w base (shS T G) (dv + 1) uv (fun h => Sh w D T G x h ∧ Ex (hideAll h (shS T G))) (.ref fvk) [.str n t] [] (TellOk w D T G (Str.ofString "**") n (cl n x)) (TellEr w D T G (cl n x)))
    (hpk : pos = [.ref aArgs, va, vk, .ref T, .ref fa] ∧ (kw = [] ∧ fva = 21 ∧ fvk = 28 ∨ kw = [(Str.ofString "formatvarargs", .ref fva), (Str.ofString "formatvarkw", .ref fvk)])) :
    Calls PySem.Challenge.pw_dw0016_02 w base (shS T G) (dv + 5) (uv + 40) (fun h => (hideAll h (shS T G)).IsList aArgs vs.toArray ∧ Ex (hideAll h (shS T G)) ∧ Sh w D T G x h)
      (.ref 43) pos kw (fun r h' => ∃ x' tk, foldV (asks cl) (favNames names oa ok) x = .ok x' ∧ r = Value.str (Str.ofString "(" ++ Str.join (Str.ofString ", ") (pieces D names oa ok) ++ Str.ofString ")") tk ∧ Sh w D T G x' h') (TellEr w D T G (foldV (asks cl) (favNames names oa ok) x)) := by
  refine' calls_K (K := hd2.heap_39 w.params) (binds := favBinds2 aArgs T fa fva fvk va vk) hb bs.T.nolimit bs.K (by omega) ?ho ?hcd ?hbind ?hloc ?body ?hcell ?hco ?hgen ?hk
  case ho => k_is
  case hcd => k_is
  case hbind =>
    obtain ⟨rfl, ⟨rfl, rfl, rfl⟩ | rfl⟩ := hpk
    · exact fun s st => binds_K st rfl (by k_is) rfl rfl rfl
    · exact fun s st => binds_K st rfl (by k_is) rfl rfl rfl
  case hloc => exact locs rfl
  case hcell => decide
  case hco => exact rfl
  case hgen => exact rfl
  case hk => exact rfl
  intro A fr s L h₁ hA hpre hh hroom hu ff hSf stg B F st₁ hL
  obtain ⟨hargs, hex, hsh⟩ := hpre
  have X := bs.K.keeps stg
  have Tp := bs.T.keeps stg
  have C := bs.C.keeps stg
  have hSL := hideS hsh.have hL
  show wpAny _ (A.deeper (favEnv L)) (execs (nth (stBody favStmt) 0 :: (stBody favStmt).drop 1) (favEnv L)) _ (FavE w D T G (foldV (asks cl) (favNames names oa ok) x) A fr s L) _
  refine stop_cons ?_
  with_reducible refine fav_def (Ex := Ex) bs hb hsh stg B F st₁ hL hh (by omega) (by omega) ?_
  intro f' t' c' ctv doc oT kvs lvs lc tl h₂ tk₂ F₂ N₂ S₂ htf hfS htS
  clear F
  show wpAny _ (A.deeper (favEnv L)) (execs (nth (stBody favStmt) 1 :: (stBody favStmt).drop 2) (favEnv L)) _ (FavE w D T G (foldV (asks cl) (favNames names oa ok) x) A fr s L) _
  refine stop_cons ?_
  conv in (nth (stBody favStmt) 1) => whnf
  k_steps
  rename Addr => sp
  rename Fr _ _ _ _ => F₃
  rename News _ _ _ _ => N₃
  have lsp := ‹f' < sp ∧ _›
  have hn : ∀ n ∈ names, n.length ≤ 100 := fun n hn => hnl n (List.mem_append_left _ (List.mem_append_left _ hn))
  have hsx : Sh w D T G x _ := S₂.O.sh F₃.keep (N₃ _ (.tail _ (.tail _ (.tail _ (.head _))))).1 (N₃ _ (.tail _ (.tail _ (.tail _ (.tail _ (.head _)))))).1 fun z hz => (N₃ z (.tail _ (.tail _ (.tail _ (.tail _ (.tail _ hz)))))).1
  have fx : FavFx T G sp f' t' := ⟨htf, lsp.1, lsp.2.2.1, lsp.2.2.2.1, hfS, htS, hsx.notS (N₃ _ (.head _)).1 (Nat.ne_of_gt lsp.2.2.1) (Nat.ne_of_gt lsp.2.2.2.1) fun vs e => by cases e⟩
  have ep : favNames names oa ok = names ++ oa.toList ++ ok.toList := rfl
  clear hsx lsp
  have F₃' := fr_map F₃ (m' := favMap aArgs T fa fva fvk sp f' va vk none) fun y => by
    by_cases hy : y = Str.ofString "i"
    · subst hy; rfl
    · simp only [favMap, if_neg hy]
  show wpAny _ (A.deeper (favEnv L)) (execs (nth (stBody favStmt) 2 :: (stBody favStmt).drop 3) (favEnv L)) _ (FavE w D T G (foldV (asks cl) (favNames names oa ok) x) A fr s L) _
  refine stop_cons ?_
  refine fav_loop (s := s) bs hT hb hEx hEf hvs hlen hn hD hfa hsh hSf hA hargs hex stg B hL hh (by omega) (by omega) fx F₃' N₃ S₂ ?_
  intro u vs' k' x₁ oT₁ kvs₁ lvs₁ lc₁ tl₁ h₄ tk₄ F₄ N₄ S₄ hl₄ hs₄
  clear F₃ F₃' N₃
  show wpAny _ (A.deeper (favEnv L)) (execs (nth (stBody favStmt) 3 :: (stBody favStmt).drop 4) (favEnv L)) _ (FavE w D T G (foldV (asks cl) (favNames names oa ok) x) A fr s L) _
  refine stop_cons ?_
  refine fav_va (s := s) bs hT hb hEx hva hEv (by simp; omega) hD hfv hsh hSf hA hex stg B hL hh (by omega) (by omega) (fun n hn e he => ?_) fx F₄ N₄ S₄ hl₄ hs₄ ?_
  · rw [ep, hn, foldV_append, show names ++ (some n).toList = names ++ [n] from rfl, he]
  intro vs₂ k₂ x₂ oT₂ kvs₂ lvs₂ lc₂ tl₂ h₅ tk₅ F₅ N₅ S₅ hl₅ hs₅
  clear F₄ N₄
  show wpAny _ (A.deeper (favEnv L)) (execs (nth (stBody favStmt) 4 :: (stBody favStmt).drop 5) (favEnv L)) _ (FavE w D T G (foldV (asks cl) (favNames names oa ok) x) A fr s L) _
  refine stop_cons ?_
  refine fav_vk (s := s) bs hT hb hEx hvk hEk (by cases oa <;> simp <;> omega) hD hfk hsh hSf hA hex stg B hL hh (by omega) (by omega) (fun n hn e he => ?_) fx F₅ N₅ S₅ hl₅ hs₅ ?_
  · rw [ep, hn]; exact he
  intro vs₃ k₃ x₃ oT₃ kvs₃ lvs₃ lc₃ tl₃ h₆ tk₆ F₆ N₆ S₆ hl₆ hs₆
  clear F₅ N₅
  replace hs₆ : StrsAre vs₃ (pieces D names oa ok) := hs₆
  obtain ⟨sl, rfl, hsl⟩ := strsAre_values hs₆
  have hpl := pieces_len hD hnl
  have hpn : (pieces D names oa ok).length ≤ 102 := by
    unfold pieces
    cases oa <;> cases ok <;> simp <;> omega
  have hjl : (Txt.join (Str.ofString ", ") (pieces D names oa ok)).length ≤ 2000000 := joinLen hpl hpn
  have hsh6 : Sh w D T G x₃ h₆ := S₆.O.sh F₆.keep (N₆ _ (.tail _ (.tail _ (.tail _ (.head _))))).1 (N₆ _ (.tail _ (.tail _ (.tail _ (.tail _ (.head _)))))).1 fun z hz => (N₆ z (.tail _ (.tail _ (.tail _ (.tail _ (.tail _ hz)))))).1
  show wpAny _ (A.deeper (favEnv L)) (execs [nth (stBody favStmt) 5] (favEnv L)) _ (FavE w D T G (foldV (asks cl) (favNames names oa ok) x) A fr s L) _
  conv in (nth (stBody favStmt) 5) => whnf
  k_steps
  show wpAny _ _ (call _ _ _) _ _ _
  refine SC.join (D := sp) ⟨_, (N₆ _ (.head _)).1, rfl, _, rfl⟩ hsl (joinOk_of hpl (by omega)) fun t' kk => ?_
  k_steps
  exact Out.mk F₆.keep ⟨x₃, _, by rw [ep]; exact hl₆, by rw [show Txt.join (Str.ofString ", ") (pieces D names oa ok) = Str.join (Str.ofString ", ") (pieces D names oa ok) from StrLaws.glued_eq_join _ _], hsh6⟩
end Mine
end -- E9
section -- R4
open PySem PySem.W PyProof.Rows PySem.Calls PySem.Spec
namespace Mine
/-! the told text of one or two cells, cut and read -/
theorem len_ls (z : Str) : z.length = z.cps.toList.length := by simp [Str.length]
theorem slice_inner (x : Str) : Txt.slice (Str.ofString "(" ++ x ++ Str.ofString ")") (some 1) (some (-1)) = x := by
  have hx : (Str.ofString "(" ++ x ++ Str.ofString ")").cps.toList = 40 :: (x.cps.toList ++ [41]) := by rw [ls_app, ls_app]; rfl
  have hl : (Str.ofString "(" ++ x ++ Str.ofString ")").length = x.length + 2 := by rw [len_ls, hx, len_ls]; simp
  show StrLaws.sliceText (Str.ofString "(" ++ x ++ Str.ofString ")") (some 1) (some (-1)) = x
  rw [StrLaws.sliceText_neg_hi _ _ (by decide) (by rw [hl]; omega)]
  have e : (-1 : Int) + ((Str.ofString "(" ++ x ++ Str.ofString ")").length : Int) = ((x.length + 1 : Nat) : Int) := by rw [hl]; omega
  rw [e]
  have := StrLaws.sliceText_nat (Str.ofString "(" ++ x ++ Str.ofString ")") (a := 1) (b := x.length + 1) (by omega) (by rw [hl]; omega)
  rw [show ((1 : Int)) = ((1 : Nat) : Int) from rfl, this]
  refine str_of ?_
  show List.take (x.length + 1 - 1) (List.drop 1 (Str.ofString "(" ++ x ++ Str.ofString ")").cps.toList) = _
  rw [hx, Nat.add_sub_cancel, List.drop_succ_cons, List.drop_zero, len_ls, List.take_left]
/-- a name without the signs that the reader looks for -/
noncomputable def Clean (n : Str) : Prop := 44 ∉ n.cps.toList ∧ 61 ∉ n.cps.toList
noncomputable def piece (D : Str → Int) (n : Str) : Str := n ++ dueText D n
theorem piece_ls (D : Str → Int) (n : Str) : piece D n = n ++ Str.ofString "=" ++ Str.ofString (toString (D n)) := by
  show n ++ (Str.ofString "=" ++ Str.ofString (toString (D n))) = _
  exact (Str.append_assoc _ _ _).symm
theorem piece_free {D : Str → Int} {n : Str} (h : Clean n) : 44 ∉ (piece D n).cps.toList := by
  rw [piece_ls, ls_app, ls_app]
  intro hm
  rcases List.mem_append.mp hm with hm | hm
  · rcases List.mem_append.mp hm with hm | hm
    · exact h.1 hm
    · revert hm; decide
  · exact int_no _ (by decide) hm
theorem piece_split {D : Str → Int} {n : Str} (h : Clean n) : Txt.split (piece D n) (Str.ofString "=") = [n, Str.ofString (toString (D n))] := by
  rw [piece_ls]
  exact split_two (c := 61) (S := []) rfl h.2 (int_no _ (by decide)) (by simp) (by decide +kernel)
noncomputable def toldOf (D : Str → Int) (ns : List Str) : Str := Str.ofString "(" ++ Str.join (Str.ofString ", ") (pieces D ns none none) ++ Str.ofString ")"
theorem told_parts {D : Str → Int} {ns : List Str} (h1 : 0 < ns.length) (h2 : ns.length ≤ 2) (hc : ∀ n ∈ ns, Clean n) : Txt.split (Txt.slice (toldOf D ns) (some 1) (some (-1))) (Str.ofString ", ") = ns.map (piece D) := by
  unfold toldOf
  rw [slice_inner]
  match ns, h1, h2, hc with
  | [a], _, _, hc =>
    show Txt.split (piece D a) _ = _
    exact split_free (c := 44) (S := [32]) rfl (piece_free (hc a (.head _)))
  | [a, b], _, _, hc =>
    show Txt.split (piece D a ++ Str.ofString ", " ++ piece D b) _ = _
    exact split_two (c := 44) (S := [32]) rfl (piece_free (hc a (.head _))) (piece_free (hc b (.tail _ (.head _)))) (by decide) (by decide +kernel)
theorem told_ne {D : Str → Int} {ns : List Str} (h1 : 0 < ns.length) : toldOf D ns ≠ Str.ofString "()" := by
  intro e
  have h : Str.join (Str.ofString ", ") (pieces D ns none none) = Str.empty := by
    have h0 : Txt.slice (toldOf D ns) (some 1) (some (-1)) = Txt.slice (Str.ofString "()") (some 1) (some (-1)) := by rw [e]
    rw [toldOf, slice_inner] at h0
    rw [h0]; decide +kernel
  match ns, h1 with
  | a :: r, _ =>
    have hl : ∀ y l, (Str.join (Str.ofString ", ") (y :: l)).length ≥ y.length := by
      intro y l
      cases l with
      | nil => exact Nat.le_refl _
      | cons z l =>
        show (y ++ Str.ofString ", " ++ Str.join (Str.ofString ", ") (z :: l)).length ≥ _
        rw [Str.length_append, Str.length_append]; omega
    have h3 := hl (a ++ dueText D a) (pieces D r none none)
    have h4 : Str.join (Str.ofString ", ") ((a ++ dueText D a) :: pieces D r none none) = Str.empty := h
    rw [h4] at h3
    have : (a ++ dueText D a).length ≥ 1 := by
      show (a ++ (Str.ofString "=" ++ _)).length ≥ 1
      rw [Str.length_append, Str.length_append, show (Str.ofString "=").length = 1 from rfl]; omega
    have h5 : (Str.empty).length = 0 := rfl
    omega
theorem told_len {D : Str → Int} {ns : List Str} (h2 : ns.length ≤ 2) (hD : ∀ n, -(2 ^ 100) < D n ∧ D n < 2 ^ 100) (hn : ∀ n ∈ ns, n.length ≤ 100) : (toldOf D ns).length ≤ 10000 := by
  have hp : ∀ n ∈ ns, (piece D n).length ≤ 1200 := fun n h => by
    have h1 := hn n h
    have h3 := dueText_len (hD n)
    show (n ++ dueText D n).length ≤ 1200
    rw [Str.length_append]; omega
  have e1 : (Str.ofString "(").length = 1 := rfl
  have e2 : (Str.ofString ")").length = 1 := rfl
  have e3 : (Str.ofString ", ").length = 2 := rfl
  unfold toldOf
  rw [Str.length_append, Str.length_append, e1, e2]
  match ns, h2, hp with
  | [], _, _ => exact (by decide : 1 + 0 + 1 ≤ 10000)
  | [a], _, hp =>
    have := hp a (.head _)
    show 1 + (piece D a).length + 1 ≤ 10000
    omega
  | [a, b], _, hp =>
    have h3 := hp a (.head _)
    have h4 := hp b (.tail _ (.head _))
    show 1 + (piece D a ++ Str.ofString ", " ++ piece D b).length + 1 ≤ 10000
    rw [Str.length_append, Str.length_append, e3]; omega
end Mine
end -- R4
section -- N2
open PySem PySem.W PyProof.Rows PySem.Calls PySem.Spec
set_option maxHeartbeats 8000000
namespace Mine
variable {w : World} {base : Heap} {p : Program} {loose : List Str} {mean : ExcName → Option Value} {mg mb : Str → Option Value}
theorem numsT0 (bs : Base1 w base p loose mean mg mb) {g : Heap} {tt : Tok} :
    Calls PySem.Challenge.pw_dw0016_02 w base [] 2 60 (fun h => ∀ a o, g.get? a = some o → (h.get? a).isSome = true) (.ref 48) [.str (Str.ofString "()") tt] []
      (fun r h' => ∃ l vs c, r = Value.ref l ∧ g.get? l = none ∧ h'.get? l = some (W.listOf (List.toArray vs) c) ∧ IntsAre vs []) (fun _ _ => False) := by
  refine' calls_K (K := hd2.heap_39 w.params) (binds := [(Str.ofString "text", .str (Str.ofString "()") tt)]) ?hS bs.T.nolimit bs.K (by omega) ?ho ?hcd ?hbind ?hloc ?body ?hcell ?hco ?hgen ?hk
  case ho => k_is
  case hcd => k_is
  case hS => intro b hb; cases hb
  case hbind => exact fun s st => BindsTo.of_eq rfl
  case hloc => exact locs rfl
  case hcell => decide
  case hco => exact rfl
  case hgen => exact rfl
  case hk => exact rfl
  intro A fr s L h₁ hA hg hh hroom hu ff hSf stg B F st₁ hL
  have X := bs.K.keeps stg
  have T := bs.T.keeps stg
  have N : News (hideAll s.heap []) L h₁ [] := News.nil
  k_steps
  rename Fr _ _ _ _ => F'
  rename News _ _ _ _ => N'
  have hn := (N' _ (.head _))
  refine Out.mk F'.keep ⟨_, [], 0, rfl, ?_, hn.1, .nil⟩
  cases q : g.get? _ with
  | none => rfl
  | some o =>
    have h1 := hg _ o q
    obtain ⟨o', ho'⟩ := Option.isSome_iff_exists.mp h1
    have h2 : (hideAll s.heap []).get? _ = some o' := hideAll_get [] ho' (fun h => nomatch h)
    rw [hn.2.2] at h2; cases h2
theorem numsD (bs : Base1 w base p loose mean mg mb) {g : Heap} {D : Str → Int} {ns : List Str} {tt : Tok} (h2 : ns.length ≤ 2) (hc : ∀ n ∈ ns, Clean n) (hD : ∀ n, -(2 ^ 100) < D n ∧ D n < 2 ^ 100) (hn : ∀ n ∈ ns, n.length ≤ 100) :
    Calls PySem.Challenge.pw_dw0016_02 w base [] 2 60 (fun h => ∀ a o, g.get? a = some o → (h.get? a).isSome = true) (.ref 48) [.str (toldOf D ns) tt] []
      (fun r h' => ∃ l vs c, r = Value.ref l ∧ g.get? l = none ∧ h'.get? l = some (W.listOf (List.toArray vs) c) ∧ IntsAre vs (ns.map D)) (fun _ _ => False) := by
  by_cases h0 : ns = []
  · subst h0
    exact numsT0 bs
  · have h1 : 0 < ns.length := List.length_pos_iff.mpr h0
    refine numsT bs (told_len h2 hD hn) (told_ne h1) (told_parts h1 h2 hc) (by simp) (by simp; omega) fun i x hx => ?_
    rw [List.getElem?_map, Option.map_eq_some_iff] at hx
    obtain ⟨n, e, rfl⟩ := hx
    have hm := List.mem_of_getElem? e
    refine ⟨_, _, piece_split (hc n hm), ?_, Nat.le_trans (int_small (hD n)) (by decide), ?_⟩
    · have h3 := hn n hm
      have h4 := dueText_len (hD n)
      show (n ++ dueText D n).length ≤ 2000
      rw [Str.length_append]; omega
    · rw [int_reads (hD n), List.getElem?_map, e]; rfl
end Mine
end -- N2
section -- B5
open PySem PySem.W PyProof.Rows PySem.Calls PySem.Spec
namespace Mine
section
variable {prog : Program} {w : World} {base : Heap} {S : List Addr}
/-- a def of the text with cells: what its body does is what the call does -/
theorem calls_cells {K : Frag} {dn un : Nat} {Pre : Heap → Prop} {f : Addr} {vals : List Value} {Ok : Value → Heap → Prop} {Er : Str → Heap → Prop}
    {name qual : Str} {params : Arguments} {body : List Stmt} {scope : Scope} {dV kV doc pm cdv ct oc : Value} {an od : Option Addr} {osl : Array (Option Value)} {binds : List (Str × Value)}
    (hS : ∀ b ∈ S, base.get? b = none) (hlim : base.NoLimit) (X : K.In base) (hdn : 0 < dn)
    (ho : K.lookup f = some ⟨oc, od, .func (fnOf name qual params body scope dV kV doc pm an cdv ct), osl⟩) (hcd : codeIn K cdv qual = true)
    (hbind : bindArgs (fnOf name qual params body scope dV kV doc pm an cdv ct) ⟨vals, []⟩ = pure binds)
    (hkind : ∀ n : Nat, ∀ x ∈ binds, scope.names.lookup x.1 = some .local ∨ (scope.names.lookup x.1 = some .cell ∧ ((cellsFrom n scope.names []).lookup x.1).isSome = true))
    (h : ∀ (A : Around) (fr : List Env) (s : Shared) (L : Addr) (h₁ : Heap) (tk : Nat), A.frames = some fr → Pre s.heap → A.handled = none → A.depth + dn < recursionLimit → A.units + un < cLine → s.heap.FunFrames base fr → (∀ b ∈ S, b ∉ frs fr) →
      base.StaysIn (hideAll s.heap S) → Below A base fr (hideAll s.heap S) → Fr (hideAll s.heap S) L h₁ (bindL (envOfC qual scope L f cdv).kindOf binds fun _ => none) → (∀ n c, (cellsFrom (L + 1) scope.names []).lookup n = some c → h₁.IsCell c (bindC (envOfC qual scope L f cdv).kindOf binds (fun _ => none) n) ∧ L < c) → s.heap.StaysIn h₁ → L = s.heap.objs.size →
      wpAny (model prog w) (A.deeper (envOfC qual scope L f cdv)) (execs body (envOfC qual scope L f cdv))
        (fun fl s' => Out s (hideAll s.heap S) Ok (match fl with | .ret v => v | _ => .none) s')
        (fun e s' => wpAny (model prog w) (A.deeper (envOfC qual scope L f cdv)) (leaving (envOfC qual scope L f cdv) e) (fun _ s'' => OutE s S Er fr s.heap e s'') (fun e' s'' => OutE s S Er fr s.heap e' s'') s')
        { s with heap := h₁, toks := tk })
    (hco : scope.isCoroutine = false) (hgen : scope.isGenerator = false) (hk : scope.kind = .function) :
    Calls prog w base S dn un Pre (.ref f) vals [] Ok Er := by
  intro A fr s Q E hA st ff hSf hpre hh hroom hu hQ hE
  refine wpAny_call (codeAny_call_cells (fd := fnOf name qual params body scope dV kV doc pm an cdv ct) (body := body) (binds := binds) (by omega) (st _ _ (X _ _ ho)) rfl (hlim.keeps st) ((codeRec_of X hcd).keeps st) rfl hbind rfl (fun x hx => hkind _ x hx) (fun s₁ x => ?_) hco hgen hk)
  obtain ⟨⟨⟨h₁, tk, rfl⟩, hns, hkp, hfr⟩, hcell, _, habove⟩ := x
  have sth := stays_hide st hS
  refine wpAny_mono (h A fr s s.heap.objs.size h₁ tk hA hpre hh hroom hu ff hSf sth ⟨hA, sth, funFrames_hideS ff hSf⟩ ⟨hns, fun b o e => hkp b o (of_hideAll _ e), Nat.le_of_eq (hideAll_size _ _)⟩ (fun n c e => ⟨hcell n c e, habove n c (mem_of_lookup e)⟩) hkp rfl) (fun fl s' hl => ?_) fun e s' hl => ?_
  · obtain ⟨h', tk', rfl, k, o⟩ := hl
    exact hQ _ _ _ (KeepBut.of_hide k) o
  · refine wpAny_mono hl (fun _ s'' o => ?_) fun e' s'' o => ?_
    · obtain ⟨x, a, h', tk', rfl, rfl, U⟩ := o
      exact hE _ _ _ _ U
    · obtain ⟨x, a, h', tk', rfl, rfl, U⟩ := o
      exact hE _ _ _ _ U
end
end Mine
end -- B5
section -- R2
open PySem PySem.W PyProof.Rows PySem.Calls PySem.Spec
namespace Mine
/-! law 02, plain: closing by recursion, and by a walk that keeps a row of the cells it has begun -/
noncomputable def closeR (kn : Str → Option (List Str)) : Nat → Str → List Str → Res
  | 0, n, x => .ok x
  | f + 1, n, x => if n ∈ x then .ok x else match kn n with
    | none => .ok x
    | some as => match foldV (asks (closeR kn f)) as x with
      | .ok x' => .ok (x' ++ [n])
      | .error e => .error e
noncomputable abbrev vis (kn : Str → Option (List Str)) (f : Nat) : Str → List Str → Res := asks (closeR kn f)
theorem vis_in {kn : Str → Option (List Str)} {f : Nat} {n : Str} {x : List Str} (h : n ∈ x) : vis kn f n x = .ok x := by
  cases f with
  | zero => simp [vis, asks, closeR, h]
  | succ f => simp [vis, asks, closeR, h]
theorem vis_none {kn : Str → Option (List Str)} {f : Nat} {n : Str} {x : List Str} (h : n ∉ x) (hk : kn n = none) : vis kn f n x = .error (x, n) := by
  cases f with
  | zero => simp [vis, asks, closeR, h]
  | succ f => simp [vis, asks, closeR, h, hk]
theorem vis_some {kn : Str → Option (List Str)} {f : Nat} {n : Str} {x as : List Str} (h : n ∉ x) (hk : kn n = some as) : vis kn (f + 1) n x = match foldV (vis kn f) as x with
    | .ok x' => .ok (x' ++ [n])
    | .error e => .error e := by
  simp only [vis, asks, closeR, if_neg h, hk]
  cases foldV (asks (closeR kn f)) as x with
  | error e => rfl
  | ok x' => simp
theorem foldV_mono {v : Str → List Str → Res} (hv : ∀ n x x', v n x = .ok x' → (∀ y ∈ x, y ∈ x') ∧ n ∈ x') : ∀ {l x x' : List Str}, foldV v l x = .ok x' → (∀ y ∈ x, y ∈ x') ∧ ∀ y ∈ l, y ∈ x'
  | [], x, x', h => by cases h; exact ⟨fun _ h => h, fun _ h => nomatch h⟩
  | n :: l, x, x', h => by
    simp only [foldV] at h
    cases q : v n x with
    | error e => rw [q] at h; cases h
    | ok x₁ =>
      rw [q] at h
      obtain ⟨a1, a2⟩ := hv n x x₁ q
      obtain ⟨b1, b2⟩ := foldV_mono hv h
      refine ⟨fun y hy => b1 y (a1 y hy), fun y hy => ?_⟩
      rcases List.mem_cons.mp hy with rfl | hy
      · exact b1 _ a2
      · exact b2 y hy
theorem vis_mono {kn : Str → Option (List Str)} : ∀ (f : Nat) (n : Str) (x x' : List Str), vis kn f n x = .ok x' → (∀ y ∈ x, y ∈ x') ∧ n ∈ x'
  | f, n, x, x', h => by
    by_cases hm : n ∈ x
    · rw [vis_in hm] at h; cases h; exact ⟨fun _ h => h, hm⟩
    · cases hk : kn n with
      | none => rw [vis_none hm hk] at h; cases h
      | some as =>
        cases f with
        | zero => simp [vis, asks, closeR, hm] at h
        | succ f =>
          rw [vis_some hm hk] at h
          cases q : foldV (vis kn f) as x with
          | error e => rw [q] at h; cases h
          | ok x₁ =>
            rw [q] at h
            cases h
            have := foldV_mono (vis_mono f) q
            exact ⟨fun y hy => List.mem_append_left _ (this.1 y hy), by simp⟩
section
variable {kn : Str → Option (List Str)} {rk : Str → Nat} {M : List Str → List Str → Prop} {R : List Str × Str → Prop}
theorem closed_run (hr : ∀ n as, kn n = some as → ∀ a ∈ as, rk a < rk n)
    (h1 : ∀ n rest d as a l, kn n = some as → as.filter (fun y => decide (y ∉ d)) = a :: l → M (a :: n :: rest) d → M (n :: rest) d)
    (h2 : ∀ n rest d as, kn n = some as → as.filter (fun y => decide (y ∉ d)) = [] → M rest (d ++ [n]) → M (n :: rest) d)
    (h3 : ∀ n rest d, kn n = none → R (d, n) → M (n :: rest) d) :
    ∀ (f : Nat) (n : Str) (d rest : List Str), rk n < f → n ∉ d → (∀ d', vis kn f n d = .ok d' → M rest d') → (∀ e, vis kn f n d = .error e → R e) → M (n :: rest) d
  | 0, _, _, _, h, _, _, _ => absurd h (Nat.not_lt_zero _)
  | f + 1, n, d, rest, hf, hn, ok, er => by
    cases hk : kn n with
    | none => exact h3 n rest d hk (er _ (vis_none hn hk))
    | some as =>
      rw [vis_some hn hk] at ok er
      have ih := closed_run hr h1 h2 h3 f
      have inner : ∀ (suf pre d : List Str), as = pre ++ suf → (∀ y ∈ pre, y ∈ d) → (∀ d', foldV (vis kn f) suf d = .ok d' → M rest (d' ++ [n])) → (∀ e, foldV (vis kn f) suf d = .error e → R e) → M (n :: rest) d := by
        intro suf
        induction suf with
        | nil =>
          intro pre d e hp ok er
          refine h2 n rest d as hk ?_ (ok d rfl)
          rw [List.filter_eq_nil_iff]
          intro y hy
          rw [e, List.append_nil] at hy
          simp [hp y hy]
        | cons a suf ihs =>
          intro pre d e hp ok er
          by_cases ha : a ∈ d
          · refine ihs (pre ++ [a]) d (by rw [e]; simp) (fun y hy => ?_) (fun d' h => ok d' ?_) (fun e h => er e ?_)
            · rcases List.mem_append.mp hy with hy | hy
              · exact hp y hy
              · rw [List.mem_singleton.mp hy]; exact ha
            · simp only [foldV, vis_in ha]; exact h
            · simp only [foldV, vis_in ha]; exact h
          · have hfil : as.filter (fun y => decide (y ∉ d)) = a :: suf.filter (fun y => decide (y ∉ d)) := by
              rw [e, List.filter_append, List.filter_cons_of_pos (by simpa using ha)]
              rw [List.filter_eq_nil_iff.mpr (fun y hy => by simp [hp y hy])]
              rfl
            refine h1 n rest d as a _ hk hfil ?_
            refine ih a d (n :: rest) ?_ ha (fun d' hd' => ?_) (fun e he => ?_)
            · have := hr n as hk a (by rw [e]; simp)
              omega
            · obtain ⟨m1, m2⟩ := vis_mono f a d d' hd'
              refine ihs (pre ++ [a]) d' (by rw [e]; simp) (fun y hy => ?_) (fun d'' h => ok d'' ?_) (fun e h => er e ?_)
              · rcases List.mem_append.mp hy with hy | hy
                · exact m1 y (hp y hy)
                · rw [List.mem_singleton.mp hy]; exact m2
              · simp only [foldV, hd']; exact h
              · simp only [foldV, hd']; exact h
            · exact er e (by simp only [foldV, he])
      refine inner as [] d rfl (fun _ h => nomatch h) (fun d' h => ok _ (by rw [h])) (fun e h => er e (by rw [h]))
end
end Mine
end -- R2
section -- E10
open PySem PySem.W PyProof.Rows PySem.Calls PySem.Spec
set_option maxHeartbeats 8000000
namespace Mine
variable {w : World} {base : Heap} {p : Program} {loose : List Str} {mean : ExcName → Option Value} {mg mb : Str → Option Value}
noncomputable def nameStmt : Stmt := nth PySem.Challenge.pw_dw0016_02.main.body 4
noncomputable def ifBody : Stmt → List Stmt
  | .If _ b _ _ => b
  | _ => []
noncomputable def asgVal : Stmt → PySem.Expr
  | .Assign _ v _ => v
  | _ => default
noncomputable def lamArgs : PySem.Expr → Arguments
  | .Lambda a _ _ _ => a
  | _ => ⟨[], [], none, [], [], none, []⟩
noncomputable def lamBody : PySem.Expr → PySem.Expr
  | .Lambda _ b _ _ => b
  | e => e
noncomputable def lamScope : PySem.Expr → Scope
  | .Lambda _ _ s _ => s
  | _ => default
noncomputable def wayE : PySem.Expr := asgVal (nth (ifBody (nth (stBody nameStmt) 1)) 0)
noncomputable abbrev wayObj (cell : Addr) (doc pm : Value) (c' : Addr) (ctv : Value) : Obj := kdv_obj (Str.ofString "<lambda>") wayQual (lamArgs wayE) (.expr (lamBody wayE)) (lamScope wayE) [(Str.ofString "sheet", cell)] .none doc pm c' ctv
theorem nameFree {M : Model} {A : Around} {E : Value → Shared → Prop} {s : Shared} {cn : Str} {cs : Scope} {L a c : Addr} {ccd : Value} {cl : List (Str × Addr)} {x : Str} {pos : Pos} {v : Value} {Q : Value → Shared → Prop} {h₀ : Heap} {m : Str → Option Value} (F : Fr h₀ L s.heap m) (hv : h₀.IsCell c (some v)) (hc : cl.lookup x = some c) (h : Q v s)
    (hk : cs.kind = .function := by rfl) (hx : (envX cn cs L a ccd cl).kindOf x = some .free := by rfl) (hb : (x == ("__debug__" : Str)) = false := by decide) (hn : (x == ("__classdict__" : Str)) = false := by decide) :
    wpAny M A (eval (.Name x pos) (envX cn cs L a ccd cl)) Q E s := wpAny_Name (wpAny_loadName_free hk hx hc (hv.keeps F.keep) h hn) hb
local macro_rules | `(tactic| walk_at "eval Name") => `(tactic| (name_kind "free"; with_unfolding_all refine Mine.nameFree (by assumption) (by assumption) (by rfl) ?_))
local macro_rules | `(tactic| walk_at "call ref cons nil") => `(tactic| refine Mine.Stop.mk ?_)
/-- the lambda's function stands, with its cell -/
noncomputable def WayAt (way cell sheet : Addr) (h : Heap) : Prop := ∃ doc pm c' ctv, h.get? way = some (wayObj cell doc pm c' ctv) ∧ h.IsCell cell (some (.ref sheet)) ∧ h.CodeRec (.ref c') wayQual
theorem WayAt.keeps {way cell sheet : Addr} {h h' : Heap} (x : WayAt way cell sheet h) (k : h.StaysIn h') : WayAt way cell sheet h' :=
  let ⟨doc, pm, c', ctv, a, b, c⟩ := x; ⟨doc, pm, c', ctv, k _ _ a, b.keeps k, c.keeps k⟩
theorem wayT (bs : Base1 w base p loose mean mg mb) {T G : Addr} {D : Str → Int} {way cell sheet : Addr} {n : Str} {tn : Tok} {res : List Str → Res} {x : List Str} {dv uv : Nat} (hb : ∀ b ∈ shS T G, base.get? b = none)
    (hnm : ∀ t, Calls PySem.Challenge.pw_dw0016_02 w base (shS T G) dv uv (Sh w D T G x) (.ref 55) [.ref sheet, .str n t] [] (TellOk w D T G Str.empty n (res x)) (TellEr w D T G (res x))) :
    Calls PySem.Challenge.pw_dw0016_02 w base (shS T G) (dv + 2) (uv + 20) (fun h => Sh w D T G x h ∧ WayAt way cell sheet (hideAll h (shS T G))) (.ref way) [.str n tn] [] (TellOk w D T G Str.empty n (res x)) (TellEr w D T G (res x)) := by
  intro A fr s Q E hA st ff hSf hpre hh hroom hu hQ hE
  obtain ⟨doc, pm, c', ctv, w1, w2, w3⟩ := id hpre.2
  have g1 := (hide_some w1).1
  suffices H : Calls PySem.Challenge.pw_dw0016_02 w base (shS T G) (dv + 2) (uv + 20) (fun h => (Sh w D T G x h ∧ WayAt way cell sheet (hideAll h (shS T G))) ∧ h.get? way = some (wayObj cell doc pm c' ctv) ∧ h.CodeRec (.ref c') wayQual) (.ref way) [.str n tn] [] (TellOk w D T G Str.empty n (res x)) (TellEr w D T G (res x)) by
    exact H A fr s Q E hA st ff hSf ⟨hpre, g1, w3.keeps fun b o e => (hide_some e).1⟩ hh hroom hu hQ hE
  refine' calls_expr (cl := [(Str.ofString "sheet", cell)]) (binds := [(Str.ofString "other", .str n tn)]) hb bs.T.nolimit (fun h hp _ => hp.2.1) rfl (fun h hp _ => hp.2.2) (by omega) ?hbind ?hloc ?body ?hcell ?hco ?hgen ?hk
  case hbind => exact rfl
  case hloc => exact locs rfl
  case hcell => decide
  case hco => exact rfl
  case hgen => exact rfl
  case hk => exact rfl
  clear hQ hE hpre w1 w2 w3 g1 hA st ff hSf hh hroom hu A fr s Q E
  intro A fr s L h₁ hA hpre hh hroom hu ff hSf stg B F st₁ hL
  obtain ⟨⟨hsh, doc', pm', c'', ctv', w1, w2, w3⟩, _, _⟩ := hpre
  have X := bs.K.keeps stg
  have Tp := bs.T.keeps stg
  have hSL := hideS hsh.have hL
  obtain ⟨oT, kvs, vs, c, cod, N, O⟩ := (hsh.keeps st₁).own F hSL
  have hSf' : ∀ b ∈ shS T G, b ∉ frs (envX wayQual (lamScope wayE) L way (Value.ref c') [(Str.ofString "sheet", cell)] :: fr) := fun b hb hm => by
    rcases List.mem_cons.mp hm with e | hm
    · exact (hSL b hb).2 e
    · exact hSf b hb hm
  conv in (lamBody wayE) => whnf
  k_steps
  show wpAny _ _ (call _ _ _) _ _ _
  rename Fr _ _ _ _ => F'
  rename News _ _ _ _ => N'
  refine use_calls (hnm tn) B F' rfl rfl hSf' (O.sh F'.keep (N' _ (.head _)).1 (N' _ (.tail _ (.head _))).1 fun z hz => (N' z (.tail _ (.tail _ hz))).1) hh (by omega) (by omega) ?_ ?_
  · rintro r h₂ tk₂ k₂ ⟨x', t₂, hx', rfl, hs₂⟩
    have F₂ := fr_but F' k₂ hSL
    k_steps
    exact Out.mk F₂.keep ⟨x', _, hx', rfl, hs₂⟩
  · intro y e h₂ tk₂ U
    refine up_leave (h := s.heap) hA rfl (Nat.le_of_eq hL.symm) (KeepBut.of_stays st₁) rfl U fun h'' U' => ?_
    exact ⟨y, e, h'', _, rfl, rfl, U'⟩
end Mine
end -- E10
section -- E11
open PySem PySem.W PyProof.Rows PySem.Calls PySem.Spec
set_option maxHeartbeats 8000000
namespace Mine
variable {w : World} {base : Heap} {p : Program} {loose : List Str} {mean : ExcName → Option Value} {mg mb : Str → Option Value}
/-- a function made in any frame: its code is looked for in the table P, or laid there -/
theorem mk_lam {M : Model} {A : Around} {E : Value → Shared → Prop} {s : Shared} {h₀ : Heap} {L c P : Addr} {m mg mb : Str → Option Value} {env : Env}
    {p : Program} {loose : List Str} {mean : ExcName → Option Value} {name qual : Str} {params : Arguments} {body : PySem.Expr} {scope : Scope} {pos : Pos} {firstLine : Nat} {clos : List (Str × Addr)} {Q : Value → Shared → Prop}
    (F : Fr h₀ L s.heap m) (T : Top p loose mean mg mb h₀) (C : CodeHd h₀ c P) (hge0 : env.globals = mainGlobals) (hcd : env.code = .ref c) (hP0 : h₀.get? P = none) (hPL : P ≠ L) (H : CodeT P pos.line pos.col qual s.heap) (hcl : closureFor scope env = pure clos)
    (h : ∀ f c' ctv doc h' tk, KeepBut [P] s.heap h' → Fr h₀ L h' m → (∀ b o, s.heap.get? b = some o → b < f) → h'.get? f = some (kdv_obj name qual params (.expr body) scope clos .none doc ((mg "__name__").getD .none) c' ctv) → s.heap.objs.size ≤ f → h'.CodeRec (.ref c') qual → CodeT P pos.line pos.col qual h' → Q (.ref f) { s with heap := h', toks := tk }) :
    wpAny M A (makeFunction name qual params (.expr body) scope env [] [] [] pos firstLine) Q E s := by
  rw [makeFunction_eq]
  simp only [List.zip_nil_right, List.filterMap_nil, List.isEmpty_nil, if_true, pure_bind]
  have hgs := T.g.keeps F.keep
  obtain ⟨bm, ob, b1, b2, b3, b4, b5, b6⟩ := T.bmain
  have hgP : mainGlobals ≠ P := fun q => by
    obtain ⟨o, es, ep, e, hd, _⟩ := T.g
    rw [q, hP0] at e; cases e
  have hbP : bm ≠ P := fun q => by
    rw [q, hP0] at b3; cases b3
  have hbG : bm ≠ mainGlobals := fun q => by
    obtain ⟨o, es, ep, e, hd, _⟩ := T.g
    rw [q, e] at b3; cases b3; rw [hd] at b6; cases b6
  have hLs : L < s.heap.objs.size := F.ns.lt
  rcases H with hm | ⟨c', hm, hr⟩
  · refine kdv_makeTail (mg := mg) hcl hge0 hgs hcd (C.keeps F.keep) hm True.intro rfl hgP ⟨bm, ob, b1, b2, hbG, hbP, F.keep _ _ b3, b4, b5, b6⟩ fun c' ctv doc h' tk hx hge hlt hrec htb => ?_
    have old : ∀ b o, h₀.get? b = some o → h'.get? b = some o := fun b o e => hx b o (fun q => by rw [q, hP0] at e; cases e) (F.keep b o e)
    refine h h'.objs.size c' ctv doc _ tk (fun b o hb e => Heap.get?_push_of_some _ (hx b o (fun q => hb (List.mem_singleton.mpr q)) e)) ⟨(F.ns.extBut hx hPL.symm).push _, fun b o e => Heap.get?_push_of_some _ (old b o e), F.above⟩
      (fun b o e => Nat.lt_of_lt_of_le (Heap.lt_size e) (Nat.le_trans hge (Nat.le_of_lt hlt))) (Heap.get?_push_size _ rfl) (Nat.le_trans hge (Nat.le_of_lt hlt)) (hrec.keeps fun b o e => Heap.get?_push_of_some _ e) (.inr ⟨c', Heap.get?_push_of_some _ htb, hrec.keeps fun b o e => Heap.get?_push_of_some _ e⟩)
  · refine kdv_makeTailHit (mg := mg) (cv := .ref c') hcl hge0 hgs hcd (C.keeps F.keep) hm (by simp [TriplesOk, rawInt]) (by simp [codeAmong, rawInt]) ⟨bm, ob, b1, b2, hbG, hbP, F.keep _ _ b3, b4, b5, b6⟩ fun ctv doc h' tk hk hsz => ?_
    refine h h'.objs.size c' ctv doc _ tk (fun b o _ e => Heap.get?_push_of_some _ (hk b o e)) ⟨(F.ns.keeps hk).push _, fun b o e => Heap.get?_push_of_some _ (hk b o (F.keep b o e)), F.above⟩
      (fun b o e => Nat.lt_of_lt_of_le (Heap.lt_size e) hsz) (Heap.get?_push_size _ rfl) hsz ((hr.keeps hk).keeps fun b o e => Heap.get?_push_of_some _ e) (.inr ⟨c', Heap.get?_push_of_some _ (hk _ _ hm), (hr.keeps hk).keeps fun b o e => Heap.get?_push_of_some _ e⟩)
theorem Sh.ne50 {w : World} {D : Str → Int} {T G : Addr} {x : List Str} {h : Heap} (H : Sh w D T G x h) : T ≠ 50 ∧ G ≠ 50 := by
  obtain ⟨⟨o, kvs, a1, a2, _⟩, ⟨vs, k, b1, _⟩, c1, c2⟩ := H
  obtain ⟨ps1, d1, d2⟩ := c2.tab
  refine ⟨fun e => ?_, fun e => ?_⟩
  · rw [e, d1] at a1; cases a1; exact dict_nf a2 _ rfl
  · rw [e, d1] at b1; cases b1
theorem Sh.keep50 {w : World} {D : Str → Int} {T G : Addr} {x : List Str} {h h' : Heap} (H : Sh w D T G x h) (k : KeepBut [50] h h') (c : CodeT 50 23 14 wayQual h') : Sh w D T G x h' := by
  obtain ⟨n1, n2⟩ := H.ne50
  have hc := fun c (r : h.CodeRec (.ref c) convQual) => H.codeNot r
  obtain ⟨⟨o, kvs, a1, a2⟩, ⟨vs, k', b1, b2⟩, c1, c2⟩ := H
  refine ⟨⟨o, kvs, k _ _ (fun m => n1 (List.mem_singleton.mp m)) a1, a2⟩, ⟨vs, k', k _ _ (fun m => n2 (List.mem_singleton.mp m)) b1, b2⟩, c1.but k (by decide) fun c r m => hc c r ?_, c⟩
  rw [List.mem_singleton.mp m]; simp [shS]
theorem Sh.neTG {w : World} {D : Str → Int} {T G : Addr} {x : List Str} {h : Heap} (H : Sh w D T G x h) : T ≠ G := fun e => by
  obtain ⟨⟨o, kvs, a1, ⟨es, ep, _, hd, _⟩, _⟩, ⟨vs, k, b1, _⟩, c1, c2⟩ := H
  rw [e, b1] at a1; rw [← Option.some.inj a1] at hd; cases hd
theorem codeRec_hidden {S : List Addr} {h : Heap} {c : Addr} {q : Str} (r : h.CodeRec (.ref c) q) (hc : c ∉ S) : (hideAll h S).CodeRec (.ref c) q := by
  obtain ⟨c2, o, vs, t, e1, e2, e3, e4⟩ := r
  cases e1
  exact ⟨c, o, vs, t, rfl, hideAll_get _ e2 hc, e3, e4⟩
theorem foldV_low {v : Str → List Str → Res} {P : Str → Prop} : ∀ {l x x' : List Str}, (∀ n ∈ l, ∀ x x', v n x = .ok x' → ∀ y ∈ x', y ∈ x ∨ P y) → foldV v l x = .ok x' → ∀ y ∈ x', y ∈ x ∨ P y
  | [], x, x', _, h, y, hy => by cases h; exact .inl hy
  | n :: l, x, x', hv, h, y, hy => by
    simp only [foldV] at h
    cases q : v n x with
    | error e => rw [q] at h; cases h
    | ok x₁ =>
      rw [q] at h
      rcases foldV_low (fun m hm => hv m (.tail _ hm)) h y hy with e | e
      · exact hv n (.head _) x x₁ q y e
      · exact .inr e
theorem asks_low {cl : Str → List Str → Res} {n : Str} {x x' : List Str} {P : Str → Prop} (h : ∀ x', cl n x = .ok x' → ∀ y ∈ x', y ∈ x ∨ P y) (e : asks cl n x = .ok x') : ∀ y ∈ x', y ∈ x ∨ P y := by
  unfold asks at e
  cases q : cl n x with
  | error z => rw [q] at e; cases e
  | ok x₁ =>
    rw [q] at e
    dsimp only at e
    split at e
    · rw [← Except.ok.inj e]; exact h x₁ q
    · cases e
/-- who is worked out for a name stands no higher than it -/
theorem closeR_low {kn : Str → Option (List Str)} {rk : Str → Nat} (hr : ∀ n as, kn n = some as → ∀ a ∈ as, rk a < rk n) : ∀ (k : Nat) (n : Str) (x x' : List Str), closeR kn k n x = .ok x' → ∀ y ∈ x', y ∈ x ∨ rk y ≤ rk n
  | 0, n, x, x', h, y, hy => by cases h; exact .inl hy
  | k + 1, n, x, x', h, y, hy => by
    simp only [closeR] at h
    split at h
    · cases h; exact .inl hy
    · split at h
      · cases h; exact .inl hy
      · rename_i as hk
        split at h
        · rename_i x₁ hf
          rw [← Except.ok.inj h] at hy
          rcases List.mem_append.mp hy with hy | hy
          · exact foldV_low (P := fun y => rk y ≤ rk n) (fun a ha z z' e => asks_low (fun z₁ e₁ y hy => (closeR_low hr k a z z₁ e₁ y hy).imp id fun q => Nat.le_trans q (Nat.le_of_lt (hr n as hk a ha))) e) hf y hy
          · rw [List.mem_singleton.mp hy]; exact .inr (Nat.le_refl _)
        · cases h
theorem fold_notin {kn : Str → Option (List Str)} {rk : Str → Nat} (hr : ∀ n as, kn n = some as → ∀ a ∈ as, rk a < rk n) {k : Nat} {n : Str} {as x x' : List Str} (hk : kn n = some as) (hm : n ∉ x) (hf : foldV (asks (closeR kn k)) as x = .ok x') : n ∉ x' := fun h => by
  rcases foldV_low (P := fun y => rk y < rk n) (fun a ha z z' e => asks_low (fun z₁ e₁ y hy => (closeR_low hr k a z z₁ e₁ y hy).imp id fun q => Nat.lt_of_le_of_lt q (hr n as hk a ha)) e) hf n h with e | e
  · exact hm e
  · exact absurd e (Nat.lt_irrefl _)
/-- the sheet, and what is known of the cells -/
structure SheetIs (w : World) (base : Heap) (sheet KN T G : Addr) (f : Str → Option Value) (kn : Str → Option (List Str)) (bs D : Str → Int) : Prop where
  sh : base.IsTuple sheet #[.ref KN, .ref T, .ref G]
  known : base.MapOf (strKind PySem.Challenge.pw_dw0016_02 w) KN f
  sys : (KN == sysModules) = false
  sysT : (T == sysModules) = false
  cell : ∀ n as, kn n = some as → n ∈ cellNames
  incl : ∀ n as, kn n = some as → ∀ a ∈ as, a ∈ cellNames
  ks : ∀ n as, kn n = some as → ∃ tup al t vs, f n = some (.ref tup) ∧ base.IsTuple tup #[.ref al, .int (bs n) t] ∧ base.IsList al (List.toArray vs) ∧ StrsAre vs as
  kno : ∀ n, kn n = none → f n = none
  clean : ∀ n as, kn n = some as → as.length ≤ 2 ∧ ∀ a ∈ as, Clean a ∧ a.length ≤ 100
  due : ∀ n as, kn n = some as → D n = bs n + (as.map D).sum
local macro_rules | `(tactic| walk_at "compareOp In str ref") => `(tactic| refine Mine.Stop.mk ?_)
local macro_rules | `(tactic| walk_at "compareOp NotIn str ref") => `(tactic| refine Mine.Stop.mk ?_)
local macro_rules | `(tactic| walk_at "subscriptTail Name Name ref str") => `(tactic| refine Mine.Stop.mk ?_)
local macro_rules | `(tactic| walk_at "subscriptTail Subscript Name Name Constant ref int") => `(tactic| refine Mine.Stop.mk ?_)
local macro_rules | `(tactic| walk_at "eval Lambda") => `(tactic| refine Mine.Stop.mk ?_)
local macro_rules | `(tactic| walk_at "call builtin:sum cons nil") => `(tactic| refine Mine.Stop.mk ?_)
local macro_rules | `(tactic| walk_at "setItem ref str int") => `(tactic| refine Mine.Stop.mk ?_)
local macro_rules | `(tactic| walk_at "call builtin:list.append cons nil") => `(tactic| refine Mine.Stop.mk ?_)
local macro_rules | `(tactic| walk_at "callWith ref") => `(tactic| (refine callWith_F (Mine.FnAt_keeps (by assumption) (Fr.keep (by assumption))) ?_))
local macro_rules | `(tactic| walk_at "call ref cons nil") => `(tactic| refine Mine.Stop.mk ?_)
theorem nameT (bs : Base1 w base p loose mean mg mb) (C50 : CodeHd base 54 50) {sheet KN T G : Addr} {f : Str → Option Value} {kn : Str → Option (List Str)} {bv D : Str → Int} {rk : Str → Nat}
    (hb : ∀ b ∈ shS T G, base.get? b = none) (SI : SheetIs w base sheet KN T G f kn bv D) (hD : ∀ n, -(2 ^ 100) < D n ∧ D n < 2 ^ 100) (hr : ∀ n as, kn n = some as → ∀ a ∈ as, rk a < rk n) :
    ∀ (k : Nat) (n : Str) (x : List Str) (tn : Tok), rk n < k → n.length ≤ 100 → Calls PySem.Challenge.pw_dw0016_02 w base (shS T G) (8 * k) (100 * k) (Sh w D T G x) (.ref 55) [.ref sheet, .str n tn] [] (TellOk w D T G Str.empty n (closeR kn k n x)) (TellEr w D T G (closeR kn k n x)) := by
  intro k
  induction k with
  | zero => intro n x tn h; exact absurd h (Nat.not_lt_zero _)
  | succ k ih =>
    intro n x tn hk hnl
    refine' calls_cells (K := hd2.heap_39 w.params) (binds := [(Str.ofString "sheet", .ref sheet), (Str.ofString "name", .str n tn)]) hb bs.T.nolimit bs.K (by omega) ?ho ?hcd ?hbind ?hkind ?body ?hco ?hgen ?hk
    case ho => k_is
    case hcd => k_is
    case hbind => exact rfl
    case hkind =>
      intro n x hx
      rcases List.mem_cons.mp hx with rfl | hx
      · exact .inr ⟨rfl, rfl⟩
      · rw [List.mem_singleton.mp hx]; exact .inl rfl
    case hco => exact rfl
    case hgen => exact rfl
    case hk => exact rfl
    intro A fr s L h₁ tk hA hsh hh hroom hu ff hSf stg B F hcells st₁ hL
    have X := bs.K.keeps stg
    have Tp := bs.T.keeps stg
    have hSL := hideS hsh.have hL
    obtain ⟨⟨co, hco, hcd⟩, hLc⟩ := hcells (Str.ofString "sheet") (L + 1) rfl
    obtain ⟨oT, kvs, vs, c, cod, N, O⟩ := (hsh.keeps st₁).own F hSL
    have hsh₀ := stg
    replace hcd : co.data = .cell (some (.ref sheet)) := hcd
    have Nc : News (hideAll s.heap (shS T G)) L h₁ ((L + 1, co) :: (T, oT) :: (G, W.listOf (List.toArray vs) c) :: cod) := news_cons ⟨hco, Nat.ne_of_gt hLc, Heap.get?_none_of_le (Nat.le_trans F.above (Nat.le_of_lt hLc))⟩ N
    clear N
    have hsheet : h₁.IsTuple sheet #[.ref KN, .ref T, .ref G] := let ⟨o, ho, r⟩ := SI.sh; ⟨o, F.keep _ _ (stg _ _ ho), r⟩
    have hKN : (hideAll s.heap (shS T G)).MapOf (strKind PySem.Challenge.pw_dw0016_02 w) KN f := mapOf_keeps SI.known stg
    k_steps
    refine wpAny_assign_Tuple hh hsheet rfl rfl fun h₂ he₂ => ?_
    have st₂ : h₁.StaysIn h₂ := fun b o e => he₂ b o (Nat.ne_of_lt (Heap.lt_size e)) e
    have F₂ := F.keeps st₂
    have N₂ := Nc.keeps st₂
    clear F Nc
    k_steps
    show wpAny _ _ (compareOp _ _ _) _ _ _
    rename Fr _ _ _ _ => F₃
    rename News _ _ _ _ => N₃
    refine wpAny_in_of (strKind_is _ _ n tn) SI.sys (mapOf_keeps hKN F₃.keep) ?_
    have hsx : Sh w D T G x _ := O.sh F₃.keep (N₃ _ (.tail _ (.head _))).1 (N₃ _ (.tail _ (.tail _ (.head _)))).1 fun z hz => (N₃ z (.tail _ (.tail _ (.tail _ hz)))).1
    cases hkn : kn n with
    | none =>
      rw [show (f n).isSome = false by rw [SI.kno n hkn]; rfl]
      have hcl : closeR kn (k + 1) n x = .ok x := by
        simp only [closeR, hkn]
        split <;> rfl
      k_steps
      rename Fr _ _ _ _ => F₄
      rename News _ _ _ _ => N₄
      exact Out.mk F₄.keep ⟨x, _, hcl, by rw [Str.empty_append], O.sh F₄.keep (N₄ _ (.tail _ (.head _))).1 (N₄ _ (.tail _ (.tail _ (.head _)))).1 fun z hz => (N₄ z (.tail _ (.tail _ (.tail _ hz)))).1⟩
    | some as =>
      obtain ⟨tup, al, tb, avs, hf, htup, hal, havs⟩ := SI.ks n as hkn
      rw [show (f n).isSome = true by rw [hf]; rfl]
      k_steps
      show wpAny _ _ (compareOp _ _ _) _ _ _
      obtain ⟨v1, v2⟩ := O.kv.at n
      refine wpAny_notIn_of (strKind_is _ _ n tn) SI.sysT (Heap.dictOf_iff.mpr ⟨oT, (N₃ _ (.tail _ (.head _))).1, O.d⟩).mapOf ?_
      by_cases hm : n ∈ x
      · obtain ⟨tv, hv⟩ := v1 hm
        have hcl : closeR kn (k + 1) n x = .ok x := by simp only [closeR, if_pos hm]
        rw [show (valueAt kvs n).isSome = true by rw [hv]; rfl]
        k_steps
        rename Fr _ _ _ _ => F₄
        rename News _ _ _ _ => N₄
        exact Out.mk F₄.keep ⟨x, _, hcl, by rw [Str.empty_append], O.sh F₄.keep (N₄ _ (.tail _ (.head _))).1 (N₄ _ (.tail _ (.tail _ (.head _)))).1 fun z hz => (N₄ z (.tail _ (.tail _ (.tail _ hz)))).1⟩
      · rw [show (valueAt kvs n).isSome = false by rw [v2 hm]; rfl]
        k_steps
        show wpAny _ _ (eval _ _) _ _ _
        refine kla_eval rfl ?_
        refine mk_lam (qual := wayQual) F₃ Tp (C50.keeps stg) rfl rfl (hSL 50 (by simp [shS])).1 (hSL 50 (by simp [shS])).2 hsx.c50 rfl ?_
        intro way c' ctv doc h₅ tk₅ kb F₅ hlt hgw hge hrec hct
        have hs₅ : Sh w D T G x h₅ := hsx.keep50 kb hct
        have hL50 : L + 1 ≠ 50 := fun e => by
          obtain ⟨ps, d1, _⟩ := hsx.c50.tab
          have := (N₃ _ (.head _)).1
          rw [e, d1] at this
          have e2 : tabObj ps = co := Option.some.inj this
          rw [← e2] at hcd; cases hcd
        have hcell₅ : h₅.get? (L + 1) = some co := kb _ _ (fun m => hL50 (List.mem_singleton.mp m)) (N₃ _ (.head _)).1
        have hway : WayAt way (L + 1) sheet h₅ := ⟨doc, _, c', ctv, hgw, ⟨co, hcell₅, hcd⟩, hrec⟩
        have hwL : L < way := Nat.lt_of_lt_of_le F₃.ns.lt hge
        obtain ⟨oT₅, kvs₅, vs₅, c₅, cod₅, N₅, O₅, R₅⟩ := start_own (loc := [(way, wayObj (L + 1) doc ((mg (Str.ofString "__name__")).getD Value.none) c' ctv), (L + 1, co)]) F₅
          (news_cons ⟨hgw, Nat.ne_of_gt hwL, Heap.get?_none_of_le (Nat.le_trans F₅.above (Nat.le_of_lt hwL))⟩ (news_cons ⟨hcell₅, (N₃ _ (.head _)).2⟩ News.nil)) hs₅ hrec hSL
        replace N₅ : News (hideAll s.heap (shS T G)) L h₅ ((way, wayObj (L + 1) doc ((mg (Str.ofString "__name__")).getD Value.none) c' ctv) :: (L + 1, co) :: (T, oT₅) :: (G, W.listOf (List.toArray vs₅) c₅) :: cod₅) := N₅
        have hTw : T < way := let ⟨o, ho⟩ := hsx.have T (by simp [shS]); hlt _ _ ho
        have hGw : G < way := let ⟨o, ho⟩ := hsx.have G (by simp [shS]); hlt _ _ ho
        clear F₃ N₃
        k_steps
        show wpAny _ _ (subscriptTail _ _ _ _) _ _ _
        rename Fr _ _ _ _ => F₆
        rename News _ _ _ _ => N₆
        refine dict_h0 hKN F₆ hf ?_
        have htup₀ : (hideAll s.heap (shS T G)).IsTuple tup #[.ref al, .int (bv n) tb] := let ⟨o, ho, r⟩ := htup; ⟨o, stg _ _ ho, r⟩
        k_steps
        refine item_tupleT (l := [.ref al, .int (bv n) tb]) (IsTup.keeps htup₀ F₆.keep) (by decide) (by decide) rfl rfl ?_
        k_steps
        show wpAny _ _ (call _ _ _) _ _ _
        have hs₆ : Sh w D T G x _ := O₅.sh F₆.keep (N₆ _ (.tail _ (.tail _ (.head _)))).1 (N₆ _ (.tail _ (.tail _ (.tail _ (.head _))))).1 fun z hz => (N₆ z (.tail _ (.tail _ (.tail _ (.tail _ hz))))).1
        have hrec₆ := R₅ _ F₆.keep fun z hz => (N₆ z (.tail _ (.tail _ (.tail _ (.tail _ hz))))).1
        have hTL : T < L + 1 := let ⟨o, ho⟩ := hsh.have T (by simp [shS]); Nat.lt_succ_of_lt (hL ▸ Heap.lt_size ho)
        have hGL : G < L + 1 := let ⟨o, ho⟩ := hsh.have G (by simp [shS]); Nat.lt_succ_of_lt (hL ▸ Heap.lt_size ho)
        have cS : L + 1 ∉ shS T G := hs₆.notS (N₆ _ (.tail _ (.head _))).1 (Nat.ne_of_gt hTL) (Nat.ne_of_gt hGL) fun vs e => by rw [hcd] at e; cases e
        have wS : way ∉ shS T G := hs₆.notS (N₆ _ (.head _)).1 (Nat.ne_of_gt hTw) (Nat.ne_of_gt hGw) fun vs e => by cases e
        have hway₆ : WayAt way (L + 1) sheet (hideAll _ (shS T G)) := ⟨doc, _, c', ctv, hideAll_get _ (N₆ _ (.head _)).1 wS, ⟨co, hideAll_get _ (N₆ _ (.tail _ (.head _))).1 cS, hcd⟩, codeRec_hidden hrec₆ (hs₆.codeNot hrec₆)⟩
        obtain ⟨hc1, hc2⟩ := SI.clean n as hkn
        have hSf' : ∀ b ∈ shS T G, b ∉ frs (envOfC (Str.ofString "_law_name") (stScope nameStmt) L 55 (.ref 54) :: fr) := fun b hb hm => by
          rcases List.mem_cons.mp hm with e | hm
          · exact (hSL b hb).2 e
          · exact hSf b hb hm
        have hlist : (hideAll _ (shS T G)).IsList al (List.toArray avs) := hal.at fun o e => hide_again F₆.keep _ o (stg _ _ e)
        refine use_calls (fav2 bs (D := D) (Ex := WayAt way (L + 1) sheet) (fva := 21) (fvk := 28) (vs := avs) (names := as) (oa := none) (ok := none) (x := x) (dv := 8 * k + 1) (uv := 100 * k + 20) (cl := closeR kn k) SI.sysT hb (fun _ _ z k => z.keeps k) (.inl ⟨rfl, .inl rfl⟩) (.inl ⟨rfl, .inr ⟨_, rfl⟩⟩) havs (by omega) (fun m hm => (hc2 m (by simpa [favNames] using hm)).2) hD
          (fun h x => let ⟨_, _, _, _, a, _⟩ := x; ⟨_, _, _, _, a⟩) (fun _ h => nomatch h) (fun _ h => nomatch h) (fun m hm x t => wayT bs (res := closeR kn k m) hb fun t => ih m x t (by have := hr n as hkn m hm; omega) (hc2 m hm).2) (fun _ h => nomatch h) (fun _ h => nomatch h) ⟨rfl, .inl ⟨rfl, rfl, rfl⟩⟩) B F₆ rfl rfl hSf' ⟨hlist, hway₆, hs₆⟩ hh (by omega) (by omega) ?_ ?_
        · rintro r h₇ tk₇ k₇ ⟨x', t₇, hfold, rfl, hs₇⟩
          have F₇ := fr_but F₆ k₇ hSL
          obtain ⟨oT₇, kvs₇, vs₇, c₇, cod₇, N₇, O₇⟩ := hs₇.own F₇ hSL
          have hTG := hs₇.neTG
          clear F₆ N₆ hs₆ hway₆ hrec₆ hlist R₅
          replace hfold : foldV (asks (closeR kn k)) as x = .ok x' := by simpa [favNames] using hfold
          k_steps
          rename Fr _ _ _ _ => F₈
          rename News _ _ _ _ => N₈
          refine dict_h0 hKN F₈ hf ?_
          k_steps
          refine item_tupleT (l := [.ref al, .int (bv n) tb]) (IsTup.keeps htup₀ F₈.keep) (by decide) (by decide) rfl rfl ?_
          k_steps
          show wpAny _ _ (call _ _ _) _ _ _
          refine use_calls (numsD bs (g := hideAll s.heap (shS T G)) (D := D) (ns := as) hc1 (fun m hm => (hc2 m hm).1) hD (fun m hm => (hc2 m hm).2)) B F₈ rfl rfl (fun b hb => nomatch hb) (fun a o e => by rw [F₈.keep _ _ e]; rfl) hh (by omega) (by omega) ?_ (fun _ _ _ _ U => let ⟨_, _, _, _, e, _⟩ := U; e.elim)
          rintro r h₉ tk₉ k₉ ⟨l, lvs, lc, rfl, _, hl, hints⟩
          have st₉ : Heap.StaysIn _ h₉ := fun b o e => k₉ b o (fun m => nomatch m) e
          have F₉ := F₈.keeps st₉
          have N₉ := N₈.keeps st₉
          clear F₈ N₈ st₉ k₉
          k_steps
          refine LSm.sum_ints F₉ N₉ hh ⟨_, hl, rfl, _, rfl⟩ hints fun h₁₀ tk₁₀ t₁₀ F₁₀ N₁₀ => ?_
          clear F₉ N₉ hl hints
          k_steps
          show wpAny _ _ (setItem _ _ _) _ _ _
          have hn' := fold_notin hr hkn hm hfold
          have hkeys : n ∉ kvs₇.map (·.1) := by rw [O₇.kv.keys]; exact hn'
          have hfew := O₇.kv.few
          rename Fr _ _ _ _ => F₁₁
          rename News _ _ _ _ => N₁₁
          refine wpAny_setItem_pairs (kvs := kvs₇) (k := n) (strKind_is _ _ n _) (Heap.dictOf_iff.mpr ⟨oT₇, (N₁₁ _ (.head _)).1, O₇.d⟩) (fun h₁₂ hD₁₂ hsb => ?_) (by have : sizeLine = 2 ^ 24 := rfl; omega)
          obtain ⟨oT', hoT', hdT'⟩ := Heap.dictOf_iff.mp hD₁₂
          rw [stored_new hkeys] at hdT'
          have F₁₂ := F₁₁.change hsb (N₁₁ _ (.head _)).2.1 (N₁₁ _ (.head _)).2.2
          have N₁₂ : News (hideAll s.heap (shS T G)) L h₁₂ ((T, oT') :: (G, W.listOf (List.toArray vs₇) c₇) :: cod₇) := news_cons ⟨hoT', (N₁₁ _ (.head _)).2⟩ (news_cons ⟨(hsb.2 _ (Ne.symm hTG)).trans (N₁₁ _ (.tail _ (.head _))).1, (N₁₁ _ (.tail _ (.head _))).2⟩ fun z hz => ⟨(hsb.2 _ (O₇.nt z hz).1).trans (N₁₁ z (.tail _ (.tail _ hz))).1, (N₁₁ z (.tail _ (.tail _ hz))).2⟩)
          clear F₁₁ N₁₁
          k_steps
          show wpAny _ _ (call _ _ _) _ _ _
          rename Fr _ _ _ _ => F₁₃
          rename News _ _ _ _ => N₁₃
          refine append_M F₁₃ N₁₃ (.tail _ (.head _)) (by have := O₇.l.1; omega) fun h₁₄ news' F₁₄ N₁₄ Tu => ?_
          have NT := N₁₄ _ (Tu.old _ (.head _) hTG)
          have NG := N₁₄ _ Tu.new
          have NC : HoldsAll cod₇ h₁₄ := fun z hz => (N₁₄ z (Tu.old z (.tail _ (.tail _ hz)) (O₇.nt z hz).2.1)).1
          have hdue := SI.due n as hkn
          clear F₁₃ N₁₃
          k_steps
          rename Fr _ _ _ _ => F₁₅
          exact Out.mk F₁₅.keep ⟨x' ++ [n], _, by simp only [closeR, if_neg hm, hkn, hfold], by rw [Str.empty_append], ⟨_, _, NT.1, hdT', by rw [← hdue]; exact O₇.kv.snoc hn' (SI.cell n as hkn)⟩, ⟨_, _, NG.1, O₇.l.snoc n tn⟩, (O₇.ok _ F₁₅.keep NC).1, (O₇.ok _ F₁₅.keep NC).2⟩
        · intro y e h₇ tk₇ U
          refine up_leave (h := s.heap) hA rfl (Nat.le_of_eq hL.symm) (KeepBut.of_hide F₆.keep) rfl U fun h'' U' => ?_
          exact ⟨y, e, h'', _, rfl, rfl, U'.more (fun b hb => hb) fun B ⟨x'', e1, e2⟩ => ⟨x'', by
            replace e1 : foldV (asks (closeR kn k)) as x = .error (x'', y) := by simpa [favNames] using e1
            simp only [closeR, if_neg hm, hkn, e1], e2⟩⟩
end Mine
end -- E11
section -- U1
open PySem PySem.W PyProof.Rows PySem.Calls PySem.Spec
namespace Mine
/-! lists of texts: compared, a dict's keys listed, the last item -/
theorem carried_strs : ∀ {ns : List Str} {vs : List Value}, StrsAre vs ns → CarriedAll vs (ns.map PyData.str)
  | [], [], _ => .nil
  | [], _ :: _, h => nomatch h.1
  | n :: ns, [], h => nomatch h.1
  | n :: ns, v :: vs, h => by
    obtain ⟨t, e⟩ := h.2 0 n rfl
    simp only [List.getElem?_cons_zero, Option.some.injEq] at e
    subst e
    exact .cons (.str n t) (carried_strs ⟨by simpa using h.1, fun i x hx => by simpa using h.2 (i + 1) x (by simpa using hx)⟩)
noncomputable def OkStrs (ns : List Str) : Prop := ∀ x ∈ ns, PyData.strOk x = true
theorem cells_ok : OkStrs cellNames := by
  have h : cellNames.all PyData.strOk = true := by decide +kernel
  exact List.all_eq_true.mp h
theorem canLay_strs : ∀ ns : List Str, OkStrs ns → PyData.canLayAll0 (ns.map PyData.str) = true
  | [], _ => rfl
  | a :: r, h => by simp [PyData.canLayAll0, PyData.canLay0, canLay_strs r fun x hx => h x (.tail _ hx), h a (.head _)]
theorem depth_strs : ∀ ns : List Str, PyData.depthAll (ns.map PyData.str) = 0
  | [] => rfl
  | _ :: r => by simp [PyData.depthAll, PyData.depth, depth_strs r]
theorem shaped_strs {ns : List Str} (h : OkStrs ns) : SeqAt.shaped (.list (ns.map PyData.str)) = true := by
  simp [SeqAt.shaped, PyData.canLay0, PyData.depth, canLay_strs ns h, depth_strs]
theorem same_strs : ∀ ns ms : List Str, PySem.Spec.sameAll (ns.map PyData.str) (ms.map PyData.str) = decide (ns = ms)
  | [], [] => by simp [PySem.Spec.sameAll]
  | [], _ :: _ => by simp [PySem.Spec.sameAll]
  | _ :: _, [] => by simp [PySem.Spec.sameAll]
  | a :: r, b :: t => by
    simp only [List.map_cons, PySem.Spec.sameAll, PySem.Spec.same, same_strs r t]
    by_cases h : a = b <;> by_cases h' : r = t <;> simp [h, h']
section
variable {prog : Program} {w : World} {A : Around} {E : Value → Shared → Prop} {s : Shared} {h₀ : Heap} {L : Addr} {m : Str → Option Value} {news : List (Addr × Obj)}
theorem ne_strs {a b : Addr} {xs ys : List Value} {ns ms : List Str} {Q : Value → Shared → Prop} (ha : s.heap.IsList a xs.toArray) (hb : s.heap.IsList b ys.toArray) (hi : StrsAre xs ns) (hj : StrsAre ys ms) (h1 : OkStrs ns) (h2 : OkStrs ms) (hu : A.units + 64 < cLine) (h : Q (.bool (!decide (ns = ms))) s) :
    wpAny (model prog w) A (compareOp .NotEq (.ref a) (.ref b)) Q E s :=
  ne_dataH_same (reads_newData ha (carried_strs hi)) (reads_newData hb (carried_strs hj)) (shaped_strs h1) (shaped_strs h2) hu (SeqAt.noMix_of_shape (.list .str) rfl _ _ (list_map_has fun _ => rfl) (list_map_has fun _ => rfl)) (by
    rw [show PySem.Spec.same (.list (ns.map PyData.str)) (.list (ms.map PyData.str)) = decide (ns = ms) from by simp only [PySem.Spec.same]; exact same_strs ns ms]; exact h)
theorem keys_list {d : Addr} {o : Obj} {kvs : List (Str × Value)} {Q : Value → Shared → Prop} (hh : A.handled = none) (F : Fr h₀ L s.heap m) (N : News h₀ L s.heap news) (hp : (d, o) ∈ news) (hd : o.IsDictOf (PySem.strKind prog w) kvs) (lo : (d == sysModules) = false) (hn : kvs.length ≤ 16777216)
    (h : ∀ (B : Addr) c h' tk vs, Fr h₀ L h' m → News h₀ L h' ((B, W.listOf (List.toArray vs) c) :: news) → (∀ q ∈ news, q.1 < B) → StrsAre vs (kvs.map (·.1)) → Q (.ref B) { s with heap := h', toks := tk }) :
    wpAny (model prog w) A (call (.type "list") [.ref d]) Q E s := by
  obtain ⟨ep, hat⟩ := (Heap.dictOf_iff.mpr ⟨o, (N _ hp).1, hd⟩ : s.heap.DictOf (PySem.strKind prog w) d kvs).dictAt
  refine kdl_N (kdl_dict (knd := PySem.strKind prog w) (kvs := kvs) (ep := ep) lo) hh F N hat (kdl_size hn) fun B c h' tk vs F' N' l1 hl hv => ?_
  refine h B c h' tk vs F' N' l1 ⟨by rw [hl, List.length_map], fun i x hx => ?_⟩
  have hi : i < vs.length := by
    rw [hl]
    have := (List.getElem?_eq_some_iff.mp hx).1
    simpa using this
  obtain ⟨k, y, e1, e2⟩ := hv i vs[i] (List.getElem?_eq_getElem hi)
  rw [List.getElem?_map, e1] at hx
  obtain ⟨t, e3⟩ := Value.isStrOf_shape e2
  refine ⟨t, ?_⟩
  rw [List.getElem?_eq_getElem hi, e3]
  have : k = x := by simpa using hx
  rw [this]
theorem item_last {R : Addr} {rv : List Value} {kR : Nat} {value slice : PySem.Expr} {u : Tok} {v : Value} {Q : Value → Shared → Prop} (N : News h₀ L s.heap news) (hm : (R, W.listOf (rv ++ [v]).toArray kR) ∈ news) (hfit : rv.length < 2 ^ 60) (h : Q v s)
    (hs : subscripted slice false (.ref R) (.int (-1) u) = operate [.ref R, .int (-1) u] (getItem (.ref R) (.int (-1) u)) := by with_unfolding_all rfl) :
    wpAny (model prog w) A (subscriptTail value slice (.ref R) (.int (-1) u)) Q E s := by
  have hl : s.heap.IsList R (rv ++ [v]).toArray := ⟨_, (N _ hm).1, rfl, _, rfl⟩
  exact tail_any hl.typeIs slot_list_getitem.lookup (wpAny_getItem_list_neg hl (by decide) (by simp; omega) (by decide) (by
    rw [show ((-1 : Int) + ((rv ++ [v]).toArray.size : Int)).toNat = rv.length by simp; omega]
    simp) h) hs
theorem pop_M {R : Addr} {rv : List Value} {y : Value} {kR : Nat} {Q : Value → Shared → Prop} (F : Fr h₀ L s.heap m) (N : News h₀ L s.heap news) (hm : (R, W.listOf (rv ++ [y]).toArray kR) ∈ news) (hz : rv.length ≤ 1000000)
    (h : ∀ h' news', Fr h₀ L h' m → News h₀ L h' news' → Turned news news' R (W.listOf rv.toArray (kR + 1)) → Q y { s with heap := h' }) : wpAny (model prog w) A (call (.builtin "list.pop") [.ref R]) Q E s := by
  have z := N _ hm
  have hz' : (rv ++ [y]).toArray.size ≤ sizeLine := by simp; have : sizeLine = 2 ^ 24 := rfl; omega
  have hk : (rv ++ [y]).toArray.size - 1 = rv.length := by simp
  have hy : (rv ++ [y]).toArray[(rv ++ [y]).toArray.size - 1]? = some y := by rw [hk]; simp
  have q := PySem.IsL.update z.1 (fun a : Array Value => a.eraseIdxIfInBounds ((rv ++ [y]).toArray.size - 1))
  have e : (rv ++ [y]).toArray.eraseIdxIfInBounds ((rv ++ [y]).toArray.size - 1) = rv.toArray := by rw [hk, kl_erase, List.append_nil]
  rw [e, if_neg (by simp)] at q
  refine call_meets PySem.F.slot_list_pop ⟨_, z.1, rfl⟩ PySem.F.entry_list_pop (PySem.F.args_list_pop_1 _) (PySem.MeetsSeq.list_pop_last R _ kR y hy hz') ⟨z.1, ?_⟩
  exact h _ _ (F.change (Heap.SameBut.update ..) z.2.1 z.2.2) (news_put N hm (Heap.SameBut.update ..) q) (put_turned hm)
end
end Mine
end -- U1
section -- U2
open PySem PySem.W PyProof.Rows PySem.Calls PySem.Spec
set_option maxHeartbeats 8000000
namespace Mine
variable {w : World} {base : Heap} {p : Program} {loose : List Str} {mean : ExcName → Option Value} {mg mb : Str → Option Value}
/-! _law_closed: the parts of its text, and the comprehension -/
noncomputable def closedStmt : Stmt := nth PySem.Challenge.pw_dw0016_02.main.body 5
noncomputable def stLoopB : Stmt → List Stmt
  | .For _ _ b _ _ => b
  | .While _ b _ _ => b
  | _ => []
noncomputable def whTest : Stmt → PySem.Expr
  | .While t _ _ _ => t
  | _ => default
noncomputable def cloFor : Stmt := nth (stBody closedStmt) 1
noncomputable def cloWhl : Stmt := nth (stLoopB cloFor) 1
noncomputable def cloAsg : Stmt := nth (stLoopB cloWhl) 1
noncomputable def cloComp : PySem.Expr := asgVal cloAsg
noncomputable def compScope : PySem.Expr → Scope
  | .ListComp _ _ s _ => s
  | _ => default
noncomputable def compIf : PySem.Expr → PySem.Expr
  | .ListComp _ (g :: _) _ _ => (match g.ifs with | c :: _ => c | [] => default)
  | e => e
noncomputable abbrev cloEnv (L : Addr) (cd : Value) : Env := envOfC (Str.ofString "_law_closed") (stScope closedStmt) L 60 cd
theorem notIn_keys {x : Str} : ∀ (kvs : List (Str × Value)), (!(valueAt kvs x).isSome) = decide (x ∉ kvs.map (·.1))
  | [] => rfl
  | (k, v) :: r => by
    by_cases e : k = x
    · subst e; simp [valueAt]
    · have ih := notIn_keys (x := x) r
      have q : valueAt ((k, v) :: r) x = valueAt r x := by simp [valueAt, e]
      rw [q, ih]
      simp [Ne.symm e]
section
local macro_rules | `(tactic| walk_at "eval Name") => `(tactic| first
  | (refine lcf_cell (by assumption) (by rfl) (List.Mem.tail _ (List.Mem.head _)) (by assumption) ?_ (by rfl) (by rfl))
  | (refine LCgL.ld_own (by assumption) (List.Mem.head _) (by assumption) (by assumption) ?_))
local macro_rules | `(tactic| walk_at "compareOp NotIn str ref") => `(tactic| refine Mine.Stop.mk ?_)
variable {A : Around} {E : Value → Shared → Prop} {s : Shared} {L C D : Addr} {cd : Value} {m₃ : Str → Option Value} {co oC : Obj} {x : Str} {xt : Tok} {h₀ : Heap} {kvs : List (Str × Value)}
theorem clo_test (N : News h₀ L s.heap [(C, oC), (L + 1, co)]) (hC : LCg.NsObj oC m₃) (hco : co.data = .cell (some (.ref D))) (hx : m₃ (Str.ofString "other") = some (Value.str x xt))
    (hD : (D == sysModules) = false) (hm : s.heap.DictOf (strKind PySem.Challenge.pw_dw0016_02 w) D kvs) :
    wpAny (model PySem.Challenge.pw_dw0016_02 w) A (PySem.isTrue (compIf cloComp) (compEnvC (compScope cloComp) [(Str.ofString "done", L + 1)] C (cloEnv L cd)) (eval (compIf cloComp) (compEnvC (compScope cloComp) [(Str.ofString "done", L + 1)] C (cloEnv L cd))))
      (fun ok s₄ => ok = decide (x ∉ kvs.map (·.1)) ∧ ∃ h' tk, s₄ = { s with heap := h', toks := tk } ∧ s.heap.StaysIn h') E s := by
  dsimp only [Mine.cloEnv]
  conv in (occs := *) (Mine.stScope Mine.closedStmt) => all_goals whnf
  conv in (occs := *) (compIf cloComp) => all_goals whnf
  conv in (occs := *) (compScope cloComp) => all_goals whnf
  k_steps
  refine wpAny_notIn_of (strKind_is _ _ x xt) hD hm.mapOf ?_
  rw [notIn_keys]
  k_steps
  exact fun _ _ e => e
end
end Mine
end -- U2
section -- U3
open PySem PySem.W PyProof.Rows PySem.Calls PySem.Spec
set_option maxHeartbeats 8000000
namespace Mine
variable {w : World} {base : Heap} {p : Program} {loose : List Str} {mean : ExcName → Option Value} {mg mb : Str → Option Value}
theorem ldC {M : Model} {A : Around} {E : Value → Shared → Prop} {s : Shared} {h₀ : Heap} {L a : Addr} {cd : Value} {name : Str} {scope : Scope} {m : Str → Option Value} {x : Str} {pos : Pos} {v : Value} {Q : Value → Shared → Prop} (F : Fr h₀ L s.heap m) (hv : m x = some v) (h : Q v s)
    (hk : scope.kind = .function := by rfl) (hl : (envOfC name scope L a cd).kindOf x = some .local := by rfl) (hd : (x == ("__debug__" : Str)) = false := by decide) :
    wpAny M A (eval (.Name x pos) (envOfC name scope L a cd)) Q E s := wpAny_Name (ldnLoc F hv h hk hl) hd
theorem up_ne {m : Str → Option Value} {x y : Str} {v r : Option Value} (h : m y = r) (hn : y ≠ x) : (fun z => if z = x then v else m z) y = r := by
  show (if y = x then v else m y) = r
  rw [if_neg hn]; exact h
local macro_rules | `(tactic| walk_at "nm val") => `(tactic| first | assumption | rfl | exact Mine.up_ne (by assumption) (by decide) | exact Mine.up_ne (Mine.up_ne (by assumption) (by decide)) (by decide))
local macro_rules | `(tactic| walk_at "eval Name") => `(tactic| (name_kind "local"; (rename Fr _ _ _ _ => F'); with_unfolding_all refine Mine.ldC F' (by walk_at "nm val") ?_))
local macro_rules | `(tactic| walk_at "subscriptTail Name UnaryOp ref int") => `(tactic| refine Mine.Stop.mk ?_)
local macro_rules | `(tactic| walk_at "subscriptTail Name Subscript ref str") => `(tactic| refine Mine.Stop.mk ?_)
local macro_rules | `(tactic| walk_at "subscriptTail Subscript Name Subscript Constant ref int") => `(tactic| refine Mine.Stop.mk ?_)
/-- the kept places and what a filter keeps -/
theorem kept_map {as : List Str} {p : Str → Bool} : ∀ n, n ≤ as.length → (keptTo (fun i => p (as.getD i Str.empty)) n).map (fun i => as.getD i Str.empty) = (as.take n).filter p
  | 0, _ => rfl
  | n + 1, h => by
    have hn : n < as.length := h
    have ih := kept_map (as := as) (p := p) n (Nat.le_of_lt hn)
    have e : as.getD n Str.empty = as[n] := by rw [List.getD_eq_getElem?_getD, List.getElem?_eq_getElem hn]; rfl
    rw [keptTo_succ, take_snoc hn, List.filter_append, ← ih, e]
    cases q : p as[n] with
    | true => rw [if_pos rfl, List.map_append, List.filter_cons_of_pos q, List.map_cons, e]; rfl
    | false => rw [if_neg (by decide), List.filter_cons_of_neg (by simp [q])]; simp
theorem strs_of_made {as ns : List Str} {ys : List Value} {kept : List Nat} {g : Nat} {no : List Addr} {h : Heap} (M : MadeG (fun i r => ∃ t, r = Value.str (as.getD i Str.empty) t) (fun _ _ => False) kept g no h ys) (e : kept.map (fun i => as.getD i Str.empty) = ns) : StrsAre ys ns := by
  subst e
  refine ⟨by rw [M.1, List.length_map], fun i x hx => ?_⟩
  rw [List.getElem?_map] at hx
  obtain ⟨j, hj, rfl⟩ := Option.map_eq_some_iff.mp hx
  have hi : i < ys.length := by rw [M.1]; exact (List.getElem?_eq_some_iff.mp hj).1
  rcases M.2 i ys[i] j (List.getElem?_eq_getElem hi) hj with ⟨t, q⟩ | ⟨_, _, _, _, _, q, _⟩
  · exact ⟨t, by rw [List.getElem?_eq_getElem hi, q]⟩
  · exact q.elim
section
variable {A : Around} {E : Value → Shared → Prop} {s : Shared} {L D V KN tup al : Addr} {cd : Value} {m : Str → Option Value} {co oD : Obj} {n : Str} {tn tb : Tok} {h₀ h : Heap} {kvs : List (Str × Value)} {ws : List Value} {c tk : Nat} {ex : List (Addr × Obj)} {f : Str → Option Value} {b : Int} {avs : List Value} {as : List Str} {Q : Flow → Shared → Prop}
theorem clo_needs (X : (hd2.heap_39 w.params).In h₀) (T : Top p loose mean mg mb h₀) (hh : A.handled = none) (hKN : h₀.MapOf (strKind PySem.Challenge.pw_dw0016_02 w) KN f) (hf : f n = some (.ref tup)) (htup : h₀.IsTuple tup #[.ref al, .int b tb]) (hal : h₀.IsList al (List.toArray avs)) (havs : StrsAre avs as) (hlen : as.length ≤ 100)
    (F : Fr h₀ L h m) (N : News h₀ L h ((L + 1, co) :: (D, oD) :: (V, W.listOf (ws ++ [Value.str n tn]).toArray c) :: ex)) (hco : co.data = .cell (some (.ref D))) (hD : oD.IsDictOf (strKind PySem.Challenge.pw_dw0016_02 w) kvs) (hsys : (D == sysModules) = false)
    (mW : m (Str.ofString "walk") = some (.ref V)) (mS : m (Str.ofString "sums") = some (.ref KN)) (hw : ws.length ≤ 1000)
    (k : ∀ B h' tk' ys c', Fr h₀ L h' (fun z => if z = Str.ofString "needs" then some (.ref B) else m z) → News h₀ L h' ((B, W.listOf (List.toArray ys) c') :: (L + 1, co) :: (D, oD) :: (V, W.listOf (ws ++ [Value.str n tn]).toArray c) :: ex) → (∀ q ∈ (L + 1, co) :: (D, oD) :: (V, W.listOf (ws ++ [Value.str n tn]).toArray c) :: ex, q.1 < B) → StrsAre ys (as.filter fun y => decide (y ∉ kvs.map (·.1))) → Q .next { s with heap := h', toks := tk' }) :
    wpAny (model PySem.Challenge.pw_dw0016_02 w) (A.deeper (cloEnv L cd)) (exec (nth (stLoopB cloWhl) 1) (cloEnv L cd)) Q E { s with heap := h, toks := tk } := by
  have hal' := havs.1
  dsimp only [Mine.cloEnv]
  conv in (occs := *) (Mine.stScope Mine.closedStmt) => all_goals whnf
  conv in (nth (stLoopB cloWhl) 1) => whnf
  refine comp_A (n := as.length) (P := fun i v => ∃ x t, as[i]? = some x ∧ v = Value.str x t) (keep := fun i => decide (as.getD i Str.empty ∉ kvs.map (·.1))) (V := fun i r => ∃ t, r = Value.str (as.getD i Str.empty) t) (G := fun _ _ => False) (cl := [(Str.ofString "done", L + 1)]) (L := L) (h₀ := h₀) (m := m) (news := (L + 1, co) :: (D, oD) :: (V, W.listOf (ws ++ [Value.str n tn]).toArray c) :: ex)
    (by with_unfolding_all rfl) rfl rfl rfl (by with_unfolding_all rfl) (by decide) rfl (by decide) rfl (by omega) ?_ (.inr ⟨_, rfl, ?_⟩) ?_ ?_
  · intro Q' kq
    k_steps
    rename Fr _ _ _ _ => F₂
    refine item_last N (.tail _ (.tail _ (.head _))) (by omega) ?_
    k_steps
    refine dict_h0 hKN F₂ hf ?_
    k_steps
    refine item_tupleT (l := [.ref al, .int b tb]) (IsTup.keeps htup F₂.keep) (by decide) (by decide) rfl rfl ?_
    refine pyIter_walks (vs := avs) hh (hal.at fun o e => F₂.keep _ o e) (P' := fun i v => ∃ x t, as[i]? = some x ∧ v = Value.str x t) (fun i v hv => ?_) (fun I h₂ tk₂ fp St e1 e2 st hfp hI Wk hIs hS => ?_)
    · have hi : i < as.length := by rw [← hal']; exact (List.getElem?_eq_some_iff.mp hv).1
      obtain ⟨t, e⟩ := havs.2 i as[i] (List.getElem?_eq_getElem hi)
      rw [hv] at e
      exact ⟨as[i], t, List.getElem?_eq_getElem hi, Option.some.inj e⟩
    · rw [hal'] at Wk
      exact kq I h₂ tk₂ fp St (by rw [← e1]; exact topOf_size F₂ N) e2 ⟨F₂.keeps st, N.keeps st⟩ hfp hI Wk hIs hS
  · rintro i v hi ⟨x, t, hx, rfl⟩ C s₃ m₃ E' hC hns hm₃ ⟨F₃, N₃⟩
    obtain ⟨oC, hoC, hNs⟩ := LCg.ns_obj hns
    have hCL : L < C := Nat.lt_of_lt_of_le (topOf_L L _) hC
    have e : as.getD i Str.empty = x := by rw [List.getD_eq_getElem?_getD, hx]; rfl
    rw [e]
    exact clo_test (s := s₃) (news_cons ⟨hoC, Nat.ne_of_gt hCL, Heap.get?_none_of_le (Nat.le_trans F₃.above (Nat.le_of_lt hCL))⟩ (news_cons (N₃ _ (.head _)) News.nil)) hNs hco hm₃ hsys (Heap.dictOf_iff.mpr ⟨oD, (N₃ _ (.tail _ (.head _))).1, hD⟩)
  · rintro i v hi ⟨x, t, hx, rfl⟩ hke C s₃ m₃ E' hC hns hm₃ ⟨F₃, N₃⟩
    obtain ⟨oC, hoC, hNs⟩ := LCg.ns_obj hns
    have hCL : L < C := Nat.lt_of_lt_of_le (topOf_L L _) hC
    have e : as.getD i Str.empty = x := by rw [List.getD_eq_getElem?_getD, hx]; rfl
    have N₄ : News h₀ L s₃.heap [(C, oC)] := news_cons ⟨hoC, Nat.ne_of_gt hCL, Heap.get?_none_of_le (Nat.le_trans F₃.above (Nat.le_of_lt hCL))⟩ News.nil
    refine LCgL.ld_own N₄ (.head _) hNs hm₃ ?_
    exact ⟨_, _, rfl, fun _ _ e => e, .inl ⟨t, by rw [e]⟩⟩
  · intro B h' tk' ys c' hB F' N' M
    refine k B h' tk' ys c' F' N' (fun q hq => Nat.lt_of_lt_of_le (topOf_mem L q hq) hB) (strs_of_made M ?_)
    have := kept_map (as := as) (p := fun y => decide (y ∉ kvs.map (·.1))) as.length (Nat.le_refl _)
    rw [List.take_length] at this
    exact this
end
end Mine
end -- U3
section -- U4
open PySem PySem.W PyProof.Rows PySem.Calls PySem.Spec
set_option maxHeartbeats 8000000
namespace Mine
variable {w : World} {base : Heap} {p : Program} {loose : List Str} {mean : ExcName → Option Value} {mg mb : Str → Option Value}
local macro_rules | `(tactic| walk_at "nm val") => `(tactic| first | assumption | rfl | exact Mine.up_ne (by assumption) (by decide) | exact Mine.up_ne (Mine.up_ne (by assumption) (by decide)) (by decide))
local macro_rules | `(tactic| walk_at "eval Name") => `(tactic| (name_kind "local"; (rename Fr _ _ _ _ => F'); with_unfolding_all refine Mine.ldC F' (by walk_at "nm val") ?_))
local macro_rules | `(tactic| walk_at "subscriptTail Name UnaryOp ref int") => `(tactic| refine Mine.Stop.mk ?_)
local macro_rules | `(tactic| walk_at "compareOp NotEq ref ref") => `(tactic| refine Mine.Stop.mk ?_)
local macro_rules | `(tactic| walk_at "compareOp NotIn str ref") => `(tactic| refine Mine.Stop.mk ?_)
local macro_rules | `(tactic| walk_at "call type:list") => `(tactic| refine Mine.Stop.mk ?_)
structure ClSt (w : World) (h₀ : Heap) (L D V KN : Addr) (ex : List (Addr × Obj)) (d wk : List Str) (h : Heap) (m : Str → Option Value) : Prop where
  F : Fr h₀ L h m
  mW : m (Str.ofString "walk") = some (.ref V)
  mS : m (Str.ofString "sums") = some (.ref KN)
  N : ∃ co oD kvs ws c, News h₀ L h ((L + 1, co) :: (D, oD) :: (V, W.listOf (List.toArray ws) c) :: ex) ∧ co.data = .cell (some (.ref D)) ∧ oD.IsDictOf (strKind PySem.Challenge.pw_dw0016_02 w) kvs ∧ kvs.map (·.1) = d ∧ StrsAre ws wk
  dn : d.Nodup
  dc : ∀ y ∈ d, y ∈ cellNames
  wc : ∀ y ∈ wk, y ∈ cellNames
  wl : wk.length ≤ 100
  exD : ∀ q ∈ ex, q.1 ≠ D
  exV : ∀ q ∈ ex, q.1 ≠ V
  sys : (D == sysModules) = false
noncomputable abbrev CloRest (w : World) (A : Around) (E : Value → Shared → Prop) (L : Addr) (cd : Value) (Q : Flow → Shared → Prop) (s : Shared) : Prop := WhlRest PySem.Challenge.pw_dw0016_02 w A E (cloEnv L cd) (whTest cloWhl) (stLoopB cloWhl) [] Q 1 s
noncomputable abbrev CloPost (w : World) (A : Around) (E : Value → Shared → Prop) (L : Addr) (cd : Value) (Q : Flow → Shared → Prop) : Flow → Shared → Prop := WhlPost PySem.Challenge.pw_dw0016_02 w A E (cloEnv L cd) (whTest cloWhl) (stLoopB cloWhl) [] Q 0
theorem ok_of {l : List Str} (h : ∀ y ∈ l, y ∈ cellNames) : OkStrs l := fun y hy => cells_ok y (h y hy)
theorem strs_last {ws : List Value} {wk : List Str} {n : Str} (h : StrsAre ws (wk ++ [n])) : ∃ ws' t, ws = ws' ++ [Value.str n t] ∧ StrsAre ws' wk := by
  obtain ⟨h1, h2⟩ := h
  have hne : ws ≠ [] := fun e => by rw [e] at h1; simp at h1
  obtain ⟨t, ht⟩ := h2 wk.length n (by simp)
  have hl : ws.length = wk.length + 1 := by rw [h1]; simp
  refine ⟨ws.dropLast, t, ?_, by simp [hl], fun i x hx => ?_⟩
  · have e := List.dropLast_concat_getLast hne
    rw [List.getLast_eq_getElem] at e
    have e2 : ws[ws.length - 1]'(by omega) = Value.str n t := by
      have := (List.getElem?_eq_some_iff.mp ht).2
      simp only [hl, Nat.add_sub_cancel]; exact this
    rw [e2] at e
    exact e.symm
  · have hi := (List.getElem?_eq_some_iff.mp hx).1
    obtain ⟨t', e⟩ := h2 i x (by rw [List.getElem?_append_left hi]; exact hx)
    exact ⟨t', by rw [List.getElem?_dropLast, if_pos (by omega)]; exact e⟩
section
variable {A : Around} {E : Value → Shared → Prop} {s : Shared} {L D V KN tup al : Addr} {cd : Value} {m : Str → Option Value} {n : Str} {tb : Tok} {h₀ h : Heap} {tk : Nat} {ex : List (Addr × Obj)} {f : Str → Option Value} {b : Int} {avs : List Value} {as d wk : List Str} {Q : Flow → Shared → Prop}
theorem clo_exit (X : (hd2.heap_39 w.params).In h₀) (T : Top p loose mean mg mb h₀) (hh : A.handled = none) (hu : A.units + 200 < cLine) (hE : PassesOwn (model PySem.Challenge.pw_dw0016_02 w) (A.deeper (cloEnv L cd)) (cloEnv L cd) E) (S : ClSt w h₀ L D V KN ex d [] h m)
    (k : ∀ h' tk', ClSt w h₀ L D V KN ex d [] h' m → Q .next { s with heap := h', toks := tk' }) :
    CloRest w (A.deeper (cloEnv L cd)) E L cd Q { s with heap := h, toks := tk } := by
  obtain ⟨co, oD, kvs, ws, c, N, hco, hD, hk, hw⟩ := S.N
  have F := S.F
  have mW := S.mW
  refine whl_turn hE ?_
  dsimp only [Mine.cloEnv]
  conv in (occs := *) (Mine.stScope Mine.closedStmt) => all_goals whnf
  conv in (occs := *) (whTest cloWhl) => all_goals whnf
  k_steps
  rename Fr _ _ _ _ => F₂
  rename News _ _ _ _ => N₂
  refine ne_strs (xs := ws) (ys := []) ⟨_, (N₂ _ (.tail _ (.tail _ (.tail _ (.head _))))).1, rfl, _, rfl⟩ ⟨_, (N₂ _ (.head _)).1, rfl, _, rfl⟩ hw .nil (fun _ h => nomatch h) (fun _ h => nomatch h) (by show A.units + 3 + 64 < cLine; omega) ?_
  k_steps
  rename Fr _ _ _ _ => F₃
  rename News _ _ _ _ => N₃
  exact k _ _ ⟨F₃, S.mW, S.mS, ⟨co, oD, kvs, ws, c, news_sub N₃ fun z hz => .tail _ hz, hco, hD, hk, hw⟩, S.dn, S.dc, S.wc, S.wl, S.exD, S.exV, S.sys⟩
local macro_rules | `(tactic| walk_at "WhlIf") => `(tactic| refine Mine.Stop.mk ?_)
/-- the test of a walk that isn't through -/
theorem clo_test1 (X : (hd2.heap_39 w.params).In h₀) (T : Top p loose mean mg mb h₀) (hh : A.handled = none) (hu : A.units + 200 < cLine) (hE : PassesOwn (model PySem.Challenge.pw_dw0016_02 w) (A.deeper (cloEnv L cd)) (cloEnv L cd) E) (S : ClSt w h₀ L D V KN ex d (wk ++ [n]) h m)
    (k : ∀ h' tk', ClSt w h₀ L D V KN ex d (wk ++ [n]) h' m → wpAny (model PySem.Challenge.pw_dw0016_02 w) (A.deeper (cloEnv L cd)) (execs (nth (stLoopB cloWhl) 0 :: (stLoopB cloWhl).drop 1) (cloEnv L cd)) (CloPost w (A.deeper (cloEnv L cd)) E L cd Q) E { s with heap := h', toks := tk' }) :
    CloRest w (A.deeper (cloEnv L cd)) E L cd Q { s with heap := h, toks := tk } := by
  obtain ⟨co, oD, kvs, ws, c, N, hco, hD, hk, hw⟩ := S.N
  have F := S.F
  have mW := S.mW
  refine whl_turn hE ?_
  dsimp only [Mine.cloEnv]
  conv in (occs := *) (Mine.stScope Mine.closedStmt) => all_goals whnf
  conv in (occs := *) (whTest cloWhl) => all_goals whnf
  k_steps
  rename Fr _ _ _ _ => F₂
  rename News _ _ _ _ => N₂
  refine ne_strs (xs := ws) (ys := []) ⟨_, (N₂ _ (.tail _ (.tail _ (.tail _ (.head _))))).1, rfl, _, rfl⟩ ⟨_, (N₂ _ (.head _)).1, rfl, _, rfl⟩ hw .nil (ok_of S.wc) (fun _ h => nomatch h) (by show A.units + 3 + 64 < cLine; omega) ?_
  rw [show decide (wk ++ [n] = []) = false by simp]
  k_steps
  show WhlIf _ _ _
  rename Fr _ _ _ _ => F₃
  rename News _ _ _ _ => N₃
  refine WhlIf.yes rfl ?_
  exact k _ _ ⟨F₃, S.mW, S.mS, ⟨co, oD, kvs, ws, c, news_sub N₃ fun z hz => .tail _ hz, hco, hD, hk, hw⟩, S.dn, S.dc, S.wc, S.wl, S.exD, S.exV, S.sys⟩
/-- the last name is known -/
theorem clo_look (X : (hd2.heap_39 w.params).In h₀) (T : Top p loose mean mg mb h₀) (hh : A.handled = none) (hu : A.units + 200 < cLine) (S : ClSt w h₀ L D V KN ex d (wk ++ [n]) h m)
    (hKN : h₀.MapOf (strKind PySem.Challenge.pw_dw0016_02 w) KN f) (hsK : (KN == sysModules) = false) {x : Value} (hf : f n = some x)
    (k : ∀ h' tk', ClSt w h₀ L D V KN ex d (wk ++ [n]) h' m → Q .next { s with heap := h', toks := tk' }) :
    wpAny (model PySem.Challenge.pw_dw0016_02 w) (A.deeper (cloEnv L cd)) (exec (nth (stLoopB cloWhl) 0) (cloEnv L cd)) Q E { s with heap := h, toks := tk } := by
  obtain ⟨co, oD, kvs, ws, c, N, hco, hD, hk, hw⟩ := S.N
  obtain ⟨ws', tn, rfl, hw'⟩ := strs_last hw
  have F := S.F
  have mW := S.mW
  have mS := S.mS
  have hl := hw'.1
  have hwl := S.wl
  rw [List.length_append] at hwl
  dsimp only [Mine.cloEnv]
  conv in (occs := *) (Mine.stScope Mine.closedStmt) => all_goals whnf
  conv in (nth (stLoopB cloWhl) 0) => whnf
  k_steps
  rename Fr _ _ _ _ => F₄
  refine item_last (rv := ws') N (.tail _ (.tail _ (.head _))) (by omega) ?_
  k_steps
  refine wpAny_notIn_of (strKind_is _ _ n _) hsK (mapOf_keeps hKN (Fr.keep (by assumption))) ?_
  rw [hf, show (!(some x).isSome) = false from rfl]
  k_steps
  rename Fr _ _ _ _ => F₃
  exact k _ _ ⟨F₃, S.mW, S.mS, ⟨co, oD, kvs, _, c, N, hco, hD, hk, hw⟩, S.dn, S.dc, S.wc, S.wl, S.exD, S.exV, S.sys⟩
/-- a name that isn't known: the walk is left -/
theorem clo_gap (X : (hd2.heap_39 w.params).In h₀) (T : Top p loose mean mg mb h₀) (hh : A.handled = none) (hu : A.units + 200 < cLine) (S : ClSt w h₀ L D V KN ex d (wk ++ [n]) h m)
    (hKN : h₀.MapOf (strKind PySem.Challenge.pw_dw0016_02 w) KN f) (hsK : (KN == sysModules) = false) (hf : f n = none)
    (k : ∀ h' tk' t l vs c gt u, Fr h₀ L h' m → News h₀ L h' [(t, (⟨.type "tuple", none, .seq #[.ref l, .str n gt] u, #[]⟩ : Obj)), (l, W.listOf (List.toArray vs) c)] → StrsAre vs d → Q (.ret (.ref t)) { s with heap := h', toks := tk' }) :
    wpAny (model PySem.Challenge.pw_dw0016_02 w) (A.deeper (cloEnv L cd)) (exec (nth (stLoopB cloWhl) 0) (cloEnv L cd)) Q E { s with heap := h, toks := tk } := by
  obtain ⟨co, oD, kvs, ws, c, N, hco, hD, hk, hw⟩ := S.N
  obtain ⟨ws', tn, rfl, hw'⟩ := strs_last hw
  have F := S.F
  have mW := S.mW
  have mS := S.mS
  have hl := hw'.1
  have hwl := S.wl
  have hkl : kvs.length ≤ 66 := by
    have := S.dn.length_le_of_subset S.dc
    rw [← hk, List.length_map] at this
    simpa [cellNames] using this
  rw [List.length_append] at hwl
  dsimp only [Mine.cloEnv]
  conv in (occs := *) (Mine.stScope Mine.closedStmt) => all_goals whnf
  conv in (nth (stLoopB cloWhl) 0) => whnf
  k_steps
  rename Fr _ _ _ _ => F₄
  refine item_last (rv := ws') N (.tail _ (.tail _ (.head _))) (by omega) ?_
  k_steps
  refine wpAny_notIn_of (strKind_is _ _ n _) hsK (mapOf_keeps hKN (Fr.keep (by assumption))) ?_
  rw [hf, show (!(none : Option Value).isSome) = true from rfl]
  k_steps
  show wpAny _ _ (call _ _ _) _ _ _
  rename Fr _ _ _ _ => F₅
  rename News _ _ _ _ => N₅
  refine keys_list hh F₅ N₅ (.tail _ (.head _)) hD S.sys (by omega) fun B c₆ h₆ tk₆ vs F₆ N₆ lt hvs => ?_
  clear F₅ N₅
  k_steps
  rename Fr _ _ _ _ => F₇
  rename News _ _ _ _ => N₇
  refine item_last (rv := ws') N₇ (.tail _ (.tail _ (.tail _ (.head _)))) (by omega) ?_
  k_steps
  rename Fr _ _ _ _ => F₈
  rename News _ _ _ _ => N₈
  exact k _ _ _ B vs c₆ tn _ F₈ (news_cons (N₈ _ (.head _)) (news_cons (N₈ _ (.tail _ (.head _))) News.nil)) (hk ▸ hvs)
theorem clo_asg (X : (hd2.heap_39 w.params).In h₀) (T : Top p loose mean mg mb h₀) (hh : A.handled = none) (hu : A.units + 200 < cLine) (S : ClSt w h₀ L D V KN ex d (wk ++ [n]) h m)
    (hKN : h₀.MapOf (strKind PySem.Challenge.pw_dw0016_02 w) KN f) (hf : f n = some (.ref tup)) (htup : h₀.IsTuple tup #[.ref al, .int b tb]) (hal : h₀.IsList al (List.toArray avs)) (havs : StrsAre avs as) (hlen : as.length ≤ 100)
    (k : ∀ B h' tk' ys c', ClSt w h₀ L D V KN ((B, W.listOf (List.toArray ys) c') :: ex) d (wk ++ [n]) h' (fun y => if y = Str.ofString "needs" then some (.ref B) else m y) → StrsAre ys (as.filter fun y => decide (y ∉ d)) → Q .next { s with heap := h', toks := tk' }) :
    wpAny (model PySem.Challenge.pw_dw0016_02 w) (A.deeper (cloEnv L cd)) (exec (nth (stLoopB cloWhl) 1) (cloEnv L cd)) Q E { s with heap := h, toks := tk } := by
  obtain ⟨co, oD, kvs, ws, c, N, hco, hD, hk, hw⟩ := S.N
  obtain ⟨ws', tn, rfl, hw'⟩ := strs_last hw
  have F := S.F
  have hl := hw'.1
  have hwl := S.wl
  rw [List.length_append] at hwl
  refine clo_needs (cd := cd) X T hh hKN hf htup hal havs hlen F N hco hD S.sys S.mW S.mS (by omega) fun B h' tk' ys c' F' N' lt hys => ?_
  exact k B h' tk' ys c' ⟨F', up_ne S.mW (by decide), up_ne S.mS (by decide), ⟨co, oD, kvs, _, c, news_sub N' fun z hz => by
    simp only [List.mem_cons] at hz ⊢
    rcases hz with h | h | h | h | h <;> simp [h], hco, hD, hk, hw⟩, S.dn, S.dc, S.wc, S.wl, List.forall_mem_cons.mpr ⟨Nat.ne_of_gt (lt _ (.tail _ (.head _))), S.exD⟩, List.forall_mem_cons.mpr ⟨Nat.ne_of_gt (lt _ (.tail _ (.tail _ (.head _)))), S.exV⟩, S.sys⟩ (hk ▸ hys)
local macro_rules | `(tactic| walk_at "subscriptTail Name Constant ref int") => `(tactic| refine Mine.Stop.mk ?_)
local macro_rules | `(tactic| walk_at "call builtin:list.append cons nil") => `(tactic| refine Mine.Stop.mk ?_)
local macro_rules | `(tactic| walk_at "call builtin:list.pop cons nil") => `(tactic| refine Mine.Stop.mk ?_)
local macro_rules | `(tactic| walk_at "setItem ref str bool") => `(tactic| refine Mine.Stop.mk ?_)
theorem clo_push (X : (hd2.heap_39 w.params).In h₀) (T : Top p loose mean mg mb h₀) (hh : A.handled = none) (hu : A.units + 200 < cLine) {B : Addr} {ys : List Value} {c' : Nat} {a : Str} {l : List Str} (S : ClSt w h₀ L D V KN ((B, W.listOf (List.toArray ys) c') :: ex) d wk h m) (mN : m (Str.ofString "needs") = some (.ref B)) (hys : StrsAre ys (a :: l)) (hal : ∀ y ∈ a :: l, y ∈ cellNames) (hwl : wk.length ≤ 99)
    (k : ∀ h' tk', ClSt w h₀ L D V KN ex d (wk ++ [a]) h' m → Q .next { s with heap := h', toks := tk' }) :
    wpAny (model PySem.Challenge.pw_dw0016_02 w) (A.deeper (cloEnv L cd)) (exec (nth (stLoopB cloWhl) 2) (cloEnv L cd)) Q E { s with heap := h, toks := tk } := by
  obtain ⟨co, oD, kvs, ws, c, N, hco, hD, hk, hw⟩ := S.N
  have F := S.F
  have mW := S.mW
  have hl := hw.1
  obtain ⟨ta, hta⟩ := hys.2 0 a rfl
  have hDV : D ≠ V := news_ne N (.tail _ (.head _)) (.tail _ (.tail _ (.head _))) fun e => by obtain ⟨_, _, _, hd, _⟩ := hD; dsimp only at e; rw [e] at hd; cases hd
  have hLV : L + 1 ≠ V := news_ne N (.head _) (.tail _ (.tail _ (.head _))) fun e => by dsimp only at e; rw [e] at hco; cases hco
  dsimp only [Mine.cloEnv]
  conv in (occs := *) (Mine.stScope Mine.closedStmt) => all_goals whnf
  conv in (nth (stLoopB cloWhl) 2) => whnf
  k_steps
  rename Fr _ _ _ _ => F₂
  rename News _ _ _ _ => N₂
  refine ne_strs (xs := ys) (ys := []) ⟨_, (N₂ _ (.tail _ (.tail _ (.tail _ (.tail _ (.head _)))))).1, rfl, _, rfl⟩ ⟨_, (N₂ _ (.head _)).1, rfl, _, rfl⟩ hys .nil (ok_of hal) (fun _ h => nomatch h) (by show A.units + 3 + 64 < cLine; omega) ?_
  rw [show decide (a :: l = []) = false by simp]
  k_steps
  rename News _ _ _ _ => N₃
  refine item_M (i := 0) N₃ (.tail _ (.tail _ (.tail _ (.tail _ (.head _))))) (by decide) hta ?_
  k_steps
  rename Fr _ _ _ _ => F₄
  rename News _ _ _ _ => N₄
  show wpAny _ _ (call _ _ _) _ _ _
  refine append_M F₄ N₄ (.tail _ (.tail _ (.tail _ (.head _)))) (by have := S.wl; omega) fun h₅ nw F₅ N₅ Tu => ?_
  have N₆ : News h₀ L h₅ ((L + 1, co) :: (D, oD) :: (V, W.listOf (List.toArray (ws ++ [Value.str a ta])) (c + 1)) :: ex) := news_sub N₅ fun z hz => by
    simp only [List.mem_cons] at hz
    rcases hz with rfl | rfl | rfl | hz
    · exact Tu.old _ (.tail _ (.head _)) hLV
    · exact Tu.old _ (.tail _ (.tail _ (.head _))) hDV
    · exact Tu.new
    · exact Tu.old _ (.tail _ (.tail _ (.tail _ (.tail _ (.tail _ hz))))) (S.exV z (.tail _ hz))
  clear N₅ F₄ N₄
  k_steps
  rename Fr _ _ _ _ => F₇
  rename News _ _ _ _ => N₇
  exact k _ _ ⟨F₇, S.mW, S.mS, ⟨co, oD, kvs, _, _, N₇, hco, hD, hk, hw.snoc a ta⟩, S.dn, S.dc, fun y hy => (List.mem_append.mp hy).elim (S.wc y) (fun q => (List.mem_singleton.mp q) ▸ hal a (.head _)), by simp; omega, fun q hq => S.exD q (.tail _ hq), fun q hq => S.exV q (.tail _ hq), S.sys⟩
theorem clo_pop (X : (hd2.heap_39 w.params).In h₀) (T : Top p loose mean mg mb h₀) (hh : A.handled = none) (hu : A.units + 200 < cLine) {B : Addr} {ys : List Value} {c' : Nat} (S : ClSt w h₀ L D V KN ((B, W.listOf (List.toArray ys) c') :: ex) d (wk ++ [n]) h m) (mN : m (Str.ofString "needs") = some (.ref B)) (hys : StrsAre ys []) (hn : n ∉ d)
    (k : ∀ h' tk', ClSt w h₀ L D V KN ex (d ++ [n]) wk h' m → Q .next { s with heap := h', toks := tk' }) :
    wpAny (model PySem.Challenge.pw_dw0016_02 w) (A.deeper (cloEnv L cd)) (exec (nth (stLoopB cloWhl) 2) (cloEnv L cd)) Q E { s with heap := h, toks := tk } := by
  obtain ⟨co, oD, kvs, ws, c, N, hco, hD, hk, hw⟩ := S.N
  obtain ⟨ws', tn, rfl, hw'⟩ := strs_last hw
  have F := S.F
  have mW := S.mW
  have hl := hw'.1
  have hwl := S.wl
  rw [List.length_append] at hwl
  have hDV : D ≠ V := news_ne N (.tail _ (.head _)) (.tail _ (.tail _ (.head _))) fun e => by obtain ⟨_, _, _, hd, _⟩ := hD; dsimp only at e; rw [e] at hd; cases hd
  have hLV : L + 1 ≠ V := news_ne N (.head _) (.tail _ (.tail _ (.head _))) fun e => by dsimp only at e; rw [e] at hco; cases hco
  have hLD : L + 1 ≠ D := news_ne N (.head _) (.tail _ (.head _)) fun e => by obtain ⟨_, _, _, hd, _⟩ := hD; dsimp only at e; rw [← e, hco] at hd; cases hd
  have hkl : kvs.length ≤ 66 := by
    have := S.dn.length_le_of_subset S.dc
    rw [← hk, List.length_map] at this
    simpa [cellNames] using this
  dsimp only [Mine.cloEnv]
  conv in (occs := *) (Mine.stScope Mine.closedStmt) => all_goals whnf
  conv in (nth (stLoopB cloWhl) 2) => whnf
  k_steps
  rename Fr _ _ _ _ => F₂
  rename News _ _ _ _ => N₂
  refine ne_strs (xs := ys) (ys := []) ⟨_, (N₂ _ (.tail _ (.tail _ (.tail _ (.tail _ (.head _)))))).1, rfl, _, rfl⟩ ⟨_, (N₂ _ (.head _)).1, rfl, _, rfl⟩ hys .nil (fun _ h => nomatch h) (fun _ h => nomatch h) (by show A.units + 3 + 64 < cLine; omega) ?_
  k_steps
  rename Fr _ _ _ _ => F₄
  rename News _ _ _ _ => N₄
  show wpAny _ _ (call _ _ _) _ _ _
  refine pop_M (rv := ws') F₄ N₄ (.tail _ (.tail _ (.tail _ (.head _)))) (by omega) fun h₅ nw F₅ N₅ Tu => ?_
  have N₆ : News h₀ L h₅ ((L + 1, co) :: (D, oD) :: (V, W.listOf (List.toArray ws') (c + 1)) :: ex) := news_sub N₅ fun z hz => by
    simp only [List.mem_cons] at hz
    rcases hz with rfl | rfl | rfl | hz
    · exact Tu.old _ (.tail _ (.head _)) hLV
    · exact Tu.old _ (.tail _ (.tail _ (.head _))) hDV
    · exact Tu.new
    · exact Tu.old _ (.tail _ (.tail _ (.tail _ (.tail _ (.tail _ hz))))) (S.exV z (.tail _ hz))
  clear N₅ F₄ N₄
  k_steps
  rename Fr _ _ _ _ => F₇
  rename News _ _ _ _ => N₇
  show wpAny _ _ (setItem _ _ _) _ _ _
  have hkeys : n ∉ kvs.map (·.1) := by rw [hk]; exact hn
  refine wpAny_setItem_pairs (kvs := kvs) (k := n) (strKind_is _ _ n _) (Heap.dictOf_iff.mpr ⟨oD, (N₇ _ (.tail _ (.head _))).1, hD⟩) (fun h₈ hD₈ hsb => ?_) (by have : sizeLine = 2 ^ 24 := rfl; omega)
  obtain ⟨oD', hoD', hdD'⟩ := Heap.dictOf_iff.mp hD₈
  rw [stored_new hkeys] at hdD'
  have F₈ := F₇.change hsb (N₇ _ (.tail _ (.head _))).2.1 (N₇ _ (.tail _ (.head _))).2.2
  have other : ∀ q, q ∈ (L + 1, co) :: (D, oD) :: (V, W.listOf (List.toArray ws') (c + 1)) :: ex → q.1 ≠ D → h₈.get? q.1 = some q.2 ∧ q.1 ≠ L ∧ h₀.get? q.1 = none := fun q hq hne => ⟨(hsb.2 _ hne).trans (N₇ q hq).1, (N₇ q hq).2⟩
  have N₈ : News h₀ L h₈ ((L + 1, co) :: (D, oD') :: (V, W.listOf (List.toArray ws') (c + 1)) :: ex) := news_cons (other _ (.head _) hLD) (news_cons ⟨hoD', (N₇ _ (.tail _ (.head _))).2⟩ (news_cons (other _ (.tail _ (.tail _ (.head _))) (Ne.symm hDV)) fun z hz => other z (.tail _ (.tail _ (.tail _ hz))) (S.exD z (.tail _ hz))))
  clear F₇ N₇
  k_steps
  rename Fr _ _ _ _ => F₉
  rename News _ _ _ _ => N₉
  exact k _ _ ⟨F₉, S.mW, S.mS, ⟨co, oD', _, _, _, N₉, hco, hdD', by rw [List.map_append, hk]; rfl, hw'⟩, by
    rw [List.nodup_append]
    exact ⟨S.dn, by simp, fun y hy z hz e => hn (by rw [← List.mem_singleton.mp hz, ← e]; exact hy)⟩, fun y hy => (List.mem_append.mp hy).elim (S.dc y) (fun q => (List.mem_singleton.mp q) ▸ S.wc n (by simp)), fun y hy => S.wc y (List.mem_append_left _ hy), by omega, fun q hq => S.exD q (.tail _ hq), fun q hq => S.exV q (.tail _ hq), S.sys⟩
end
end Mine
end -- U4
section -- U5
open PySem PySem.W PyProof.Rows PySem.Calls PySem.Spec
set_option maxHeartbeats 8000000
namespace Mine
variable {w : World} {base : Heap} {p : Program} {loose : List Str} {mean : ExcName → Option Value} {mg mb : Str → Option Value}
/-- what is known of the cells, in a heap -/
structure Known (w : World) (h₀ : Heap) (KN : Addr) (f : Str → Option Value) (kn : Str → Option (List Str)) : Prop where
  map : h₀.MapOf (strKind PySem.Challenge.pw_dw0016_02 w) KN f
  sys : (KN == sysModules) = false
  ks : ∀ n as, kn n = some as → ∃ tup al t vs b, f n = some (.ref tup) ∧ h₀.IsTuple tup #[.ref al, .int b t] ∧ h₀.IsList al (List.toArray vs) ∧ StrsAre vs as
  kno : ∀ n, kn n = none → f n = none
  few : ∀ n as, kn n = some as → as.length ≤ 2
  incl : ∀ n as, kn n = some as → ∀ a ∈ as, a ∈ cellNames
theorem SheetIs.keeps {sheet KN T G : Addr} {f : Str → Option Value} {kn : Str → Option (List Str)} {bv D : Str → Int} {h₀ : Heap} (SI : SheetIs w base sheet KN T G f kn bv D) (st : base.StaysIn h₀) : Known w h₀ KN f kn :=
  ⟨mapOf_keeps SI.known st, SI.sys, fun n as h => let ⟨tup, al, t, vs, a, b, c, d⟩ := SI.ks n as h; ⟨tup, al, t, vs, _, a, IsTup.keeps b st, c.at fun o e => st _ _ e, d⟩, SI.kno, fun n as h => (SI.clean n as h).1, SI.incl⟩
section
variable {A : Around} {E : Value → Shared → Prop} {s : Shared} {L D V KN : Addr} {cd : Value} {m : Str → Option Value} {h₀ h : Heap} {tk : Nat} {ex : List (Addr × Obj)} {f : Str → Option Value} {kn : Str → Option (List Str)} {rk : Str → Nat} {Q : Flow → Shared → Prop}
noncomputable def GapOk (h₀ : Heap) (s : Shared) (Q : Flow → Shared → Prop) (d : List Str) (g : Str) : Prop := ∀ h' tk' t l vs c gt u, h₀.StaysIn h' → h'.get? t = some (⟨.type "tuple", none, .seq #[.ref l, .str g gt] u, #[]⟩ : Obj) → h'.get? l = some (W.listOf (List.toArray vs) c) → h₀.get? t = none → h₀.get? l = none → StrsAre vs d → Q (.ret (.ref t)) { s with heap := h', toks := tk' }
theorem clo_run (X : (hd2.heap_39 w.params).In h₀) (T : Top p loose mean mg mb h₀) (hh : A.handled = none) (hu : A.units + 200 < cLine) (hE : PassesOwn (model PySem.Challenge.pw_dw0016_02 w) (A.deeper (cloEnv L cd)) (cloEnv L cd) E) (Kn : Known w h₀ KN f kn) (hr : ∀ n as, kn n = some as → ∀ a ∈ as, rk a < rk n)
    (k : Nat) (n : Str) (d : List Str) (hk : rk n < k) (hn : n ∉ d) (S : ClSt w h₀ L D V KN ex d [n] h m)
    (hfin : ∀ d' h' tk' m', vis kn k n d = .ok d' → ClSt w h₀ L D V KN ex d' [] h' m' → Q .next { s with heap := h', toks := tk' })
    (hgap : ∀ d' g, vis kn k n d = .error (d', g) → GapOk h₀ s Q d' g) :
    CloRest w (A.deeper (cloEnv L cd)) E L cd Q { s with heap := h, toks := tk } := by
  have run := closed_run (kn := kn) (rk := rk) (M := fun stack d => stack.Pairwise (fun a b => rk a < rk b) → (∀ y ∈ stack, y ∈ cellNames) → (∀ y ∈ stack, y ∉ d) → ∀ h tk m, ClSt w h₀ L D V KN ex d stack.reverse h m → CloRest w (A.deeper (cloEnv L cd)) E L cd Q { s with heap := h, toks := tk })
    (R := fun e => vis kn k n d = .error e) hr ?_ ?_ ?_ k n d [] hk hn (fun d' hd' => ?_) (fun e h => h)
  · exact run (List.pairwise_singleton _ _) (fun y hy => S.wc y hy) (fun y hy => (List.mem_singleton.mp hy) ▸ hn) h tk m S
  · intro n' rest d₁ as a l hkn hfil hM pw hc hnd h tk m S
    obtain ⟨tup, al, t, avs, b, hf, htup, hal, havs⟩ := Kn.ks n' as hkn
    have hfew := Kn.few n' as hkn
    have ha : ∀ y ∈ a :: l, y ∈ as := fun y hy => (List.mem_filter.mp (hfil ▸ hy)).1
    have pw' : (a :: n' :: rest).Pairwise (fun a b => rk a < rk b) := List.pairwise_cons.mpr ⟨fun y hy => by
      have h1 := hr n' as hkn a (ha a (.head _))
      rcases List.mem_cons.mp hy with rfl | hy
      · exact h1
      · exact Nat.lt_trans h1 ((List.pairwise_cons.mp pw).1 y hy), pw⟩
    have hc' : ∀ y ∈ a :: n' :: rest, y ∈ cellNames := List.forall_mem_cons.mpr ⟨Kn.incl n' as hkn a (ha a (.head _)), hc⟩
    have hlen : (n' :: rest).length ≤ 66 := by
      have hnd' : (n' :: rest).Nodup := pw.imp fun h e => by rw [e] at h; exact absurd h (Nat.lt_irrefl _)
      have := hnd'.length_le_of_subset hc
      simpa [cellNames] using this
    rw [List.reverse_cons] at S
    refine clo_test1 X T hh hu hE S fun h₁ tk₁ S₁ => ?_
    refine stop_cons ?_
    refine clo_look X T hh hu S₁ Kn.map Kn.sys hf fun h₂ tk₂ S₂ => ?_
    show wpAny _ _ (execs (nth (stLoopB cloWhl) 1 :: (stLoopB cloWhl).drop 2) _) _ _ _
    refine stop_cons ?_
    refine clo_asg X T hh hu S₂ Kn.map hf htup hal havs (by omega) fun B h₃ tk₃ ys c' S₃ hys => ?_
    rw [hfil] at hys
    show wpAny _ _ (execs (nth (stLoopB cloWhl) 2 :: []) _) _ _ _
    refine stop_cons ?_
    refine clo_push X T hh hu S₃ rfl hys (fun y hy => Kn.incl n' as hkn y (ha y hy)) (by simp at hlen ⊢; omega) fun h₄ tk₄ S₄ => ?_
    show wpAny _ _ (execs [] _) _ _ _
    refine wpAny_execs_nil ?_
    exact hM pw' hc' (List.forall_mem_cons.mpr ⟨by
      have : a ∈ as.filter (fun y => decide (y ∉ d₁)) := by rw [hfil]; exact .head _
      simpa using (List.mem_filter.mp this).2, hnd⟩) h₄ tk₄ _ (by rw [List.reverse_cons, List.reverse_cons]; exact S₄)
  · intro n' rest d₁ as hkn hfil hM pw hc hnd h tk m S
    obtain ⟨tup, al, t, avs, b, hf, htup, hal, havs⟩ := Kn.ks n' as hkn
    have hfew := Kn.few n' as hkn
    rw [List.reverse_cons] at S
    refine clo_test1 X T hh hu hE S fun h₁ tk₁ S₁ => ?_
    refine stop_cons ?_
    refine clo_look X T hh hu S₁ Kn.map Kn.sys hf fun h₂ tk₂ S₂ => ?_
    show wpAny _ _ (execs (nth (stLoopB cloWhl) 1 :: (stLoopB cloWhl).drop 2) _) _ _ _
    refine stop_cons ?_
    refine clo_asg X T hh hu S₂ Kn.map hf htup hal havs (by omega) fun B h₃ tk₃ ys c' S₃ hys => ?_
    rw [hfil] at hys
    show wpAny _ _ (execs (nth (stLoopB cloWhl) 2 :: []) _) _ _ _
    refine stop_cons ?_
    refine clo_pop X T hh hu S₃ rfl hys (hnd n' (.head _)) fun h₄ tk₄ S₄ => ?_
    show wpAny _ _ (execs [] _) _ _ _
    refine wpAny_execs_nil ?_
    exact hM (List.pairwise_cons.mp pw).2 (fun y hy => hc y (.tail _ hy)) (fun y hy hm => (List.mem_append.mp hm).elim (hnd y (.tail _ hy)) fun q => by
      have := (List.pairwise_cons.mp pw).1 y hy
      rw [List.mem_singleton.mp q] at this; exact absurd this (Nat.lt_irrefl _)) h₄ tk₄ _ S₄
  · intro n' rest d₁ hkn hR pw hc hnd h tk m S
    rw [List.reverse_cons] at S
    refine clo_test1 X T hh hu hE S fun h₁ tk₁ S₁ => ?_
    refine stop_cons ?_
    refine clo_gap X T hh hu S₁ Kn.map Kn.sys (Kn.kno n' hkn) fun h₂ tk₂ t l vs c gt u F₂ N₂ hvs => ?_
    exact hgap d₁ n' hR h₂ tk₂ t l vs c gt u F₂.keep (N₂ _ (.head _)).1 (N₂ _ (.tail _ (.head _))).1 (N₂ _ (.head _)).2.2 (N₂ _ (.tail _ (.head _))).2.2 hvs
  · intro _ _ _ h tk m S
    exact clo_exit X T hh hu hE S fun h' tk' S' => hfin d' h' tk' m hd' S'
end
end Mine
end -- U5
section -- U6
open PySem PySem.W PyProof.Rows PySem.Calls PySem.Spec
set_option maxHeartbeats 8000000
namespace Mine
variable {w : World} {base : Heap} {p : Program} {loose : List Str} {mean : ExcName → Option Value} {mg mb : Str → Option Value}
local macro_rules | `(tactic| walk_at "compareOp NotIn str ref") => `(tactic| refine Mine.Stop.mk ?_)
local macro_rules | `(tactic| walk_at "call type:list") => `(tactic| refine Mine.Stop.mk ?_)
local macro_rules | `(tactic| walk_at "nm val") => `(tactic| first | assumption | rfl | exact Mine.up_ne (by assumption) (by decide) | exact Mine.up_ne (Mine.up_ne (by assumption) (by decide)) (by decide))
local macro_rules | `(tactic| walk_at "eval Name") => `(tactic| (name_kind "local"; (rename Fr _ _ _ _ => F'); with_unfolding_all refine Mine.ldC F' (by walk_at "nm val") ?_))
section
variable {A : Around} {E : Value → Shared → Prop} {s : Shared} {L D KN : Addr} {cd : Value} {m : Str → Option Value} {h₀ h : Heap} {tk : Nat} {ex : List (Addr × Obj)} {Q : Flow → Shared → Prop} {co oD : Obj} {kvs : List (Str × Value)} {n : Str} {tn : Tok}
theorem clo_first (X : (hd2.heap_39 w.params).In h₀) (T : Top p loose mean mg mb h₀) (hh : A.handled = none) (F : Fr h₀ L h m) (N : News h₀ L h ((L + 1, co) :: (D, oD) :: ex)) (hco : co.data = .cell (some (.ref D))) (hD : oD.IsDictOf (strKind PySem.Challenge.pw_dw0016_02 w) kvs) (hsys : (D == sysModules) = false) (mC : m (Str.ofString "cell") = some (.str n tn))
    (k : ∀ V h' tk' ws, Fr h₀ L h' (fun y => if y = Str.ofString "walk" then some (.ref V) else m y) → News h₀ L h' ((V, W.listOf (List.toArray ws) 0) :: (L + 1, co) :: (D, oD) :: ex) → (∀ q ∈ (L + 1, co) :: (D, oD) :: ex, q.1 < V) → StrsAre ws (if n ∈ kvs.map (·.1) then [] else [n]) → Q .next { s with heap := h', toks := tk' }) :
    wpAny (model PySem.Challenge.pw_dw0016_02 w) (A.deeper (cloEnv L cd)) (exec (nth (stLoopB cloFor) 0) (cloEnv L cd)) Q E { s with heap := h, toks := tk } := by
  dsimp only [Mine.cloEnv]
  conv in (occs := *) (Mine.stScope Mine.closedStmt) => all_goals whnf
  conv in (nth (stLoopB cloFor) 0) => whnf
  k_steps
  show wpAny _ _ (compareOp _ _ _) _ _ _
  refine wpAny_notIn_of (strKind_is _ _ n _) hsys (Heap.dictOf_iff.mpr ⟨oD, (N _ (.tail _ (.head _))).1, hD⟩ : Heap.DictOf _ _ D kvs).mapOf ?_
  rw [notIn_keys]
  by_cases hn : n ∈ kvs.map (·.1)
  · rw [show decide (n ∉ kvs.map (·.1)) = false by simpa using hn]
    k_steps
    rename Addr => V
    have lt := ‹L + 1 < V ∧ D < V ∧ AllLt V ex›
    rename Fr _ _ _ _ => F₂
    rename News _ _ _ _ => N₂
    exact k V _ _ [] F₂ N₂ (List.forall_mem_cons.mpr ⟨lt.1, List.forall_mem_cons.mpr ⟨lt.2.1, allLt_mem lt.2.2⟩⟩) (by rw [if_pos hn]; exact .nil)
  · rw [show decide (n ∉ kvs.map (·.1)) = true by simpa using hn]
    k_steps
    rename Addr => V
    have lt := ‹L + 1 < V ∧ D < V ∧ AllLt V ex›
    rename Fr _ _ _ _ => F₂
    rename News _ _ _ _ => N₂
    exact k V _ _ [_] F₂ N₂ (List.forall_mem_cons.mpr ⟨lt.1, List.forall_mem_cons.mpr ⟨lt.2.1, allLt_mem lt.2.2⟩⟩) (by rw [if_neg hn]; exact StrsAre.snoc .nil n _)
end
noncomputable def CloJ (w : World) (L KN : Addr) (kn : Str → Option (List Str)) (k : Nat) (rows : List Str) (i : Nat) (m : Str → Option Value) (nw : List (Addr × Obj)) : Prop :=
  m (Str.ofString "sums") = some (.ref KN) ∧ ∃ co D oD kvs d, nw = [(L + 1, co), (D, oD)] ∧ co.data = .cell (some (.ref D)) ∧ oD.IsDictOf (strKind PySem.Challenge.pw_dw0016_02 w) kvs ∧ kvs.map (·.1) = d ∧ foldV (vis kn k) (rows.take i) [] = .ok d ∧ d.Nodup ∧ (∀ y ∈ d, y ∈ cellNames) ∧ (D == sysModules) = false
theorem foldV_take {v : Str → List Str → Res} {rows : List Str} {i : Nat} {n : Str} {d : List Str} (hi : rows[i]? = some n) (h : foldV v (rows.take i) [] = .ok d) : foldV v (rows.take (i + 1)) [] = v n d := by
  obtain ⟨hl, e⟩ := List.getElem?_eq_some_iff.mp hi
  rw [take_snoc hl, e]
  exact foldV_snoc h
theorem foldV_gap {v : Str → List Str → Res} {rows : List Str} {i : Nat} {n : Str} {d : List Str} {e : List Str × Str} (hi : rows[i]? = some n) (h : foldV v (rows.take i) [] = .ok d) (hn : v n d = .error e) : foldV v rows [] = .error e := by
  obtain ⟨hl, q⟩ := List.getElem?_eq_some_iff.mp hi
  have := take_split hl
  rw [this, q]
  exact foldV_err h hn
section
variable {A : Around} {E : Value → Shared → Prop} {s : Shared} {L KN row : Addr} {cd : Value} {m : Str → Option Value} {h₀ h : Heap} {tk : Nat} {nw : List (Addr × Obj)} {Q : Flow → Shared → Prop} {f : Str → Option Value} {kn : Str → Option (List Str)} {rk : Str → Nat} {rvs : List Value} {rows : List Str} {k : Nat}
theorem clo_end {I D V : Addr} {io : Obj} {d : List Str} {i : Nat} (S : ClSt w h₀ L D V KN [(I, io)] d [] h m) (hf : foldV (vis kn k) (rows.take (i + 1)) [] = .ok d) (hLI : L + 1 ≠ I) :
    TurnEnd h₀ L s Q I io (CloJ w L KN kn k rows (i + 1)) .next { s with heap := h, toks := tk } := by
  obtain ⟨co, oD, kvs, ws, c, N, hco, hD, hkd, hw⟩ := S.N
  refine ⟨h, tk, m, [(L + 1, co), (D, oD)], rfl, S.F, news_cons (N _ (.tail _ (.tail _ (.tail _ (.head _))))) (news_cons (N _ (.head _)) (news_cons (N _ (.tail _ (.head _))) News.nil)), List.forall_mem_cons.mpr ⟨hLI, List.forall_mem_cons.mpr ⟨Ne.symm (S.exD _ (.head _)), fun _ h => nomatch h⟩⟩, S.mS, co, D, oD, kvs, d, rfl, hco, hD, hkd, hf, S.dn, S.dc, S.sys⟩
theorem clo_for (X : (hd2.heap_39 w.params).In h₀) (T : Top p loose mean mg mb h₀) (hh : A.handled = none) (hu : A.units + 300 < cLine) (hE : PassesOwn (model PySem.Challenge.pw_dw0016_02 w) (A.deeper (cloEnv L cd)) (cloEnv L cd) E) (Kn : Known w h₀ KN f kn) (hr : ∀ n as, kn n = some as → ∀ a ∈ as, rk a < rk n)
    (hrow : h₀.IsList row (List.toArray rvs)) (hrs : StrsAre rvs rows) (hrc : ∀ n ∈ rows, n ∈ cellNames) (hk : ∀ n ∈ rows, rk n < k) (mC : m (Str.ofString "cells") = some (.ref row)) (F : Fr h₀ L h m) (N : News h₀ L h nw) (hJ : CloJ w L KN kn k rows 0 m nw)
    (hgap : ∀ d g, foldV (vis kn k) rows [] = .error (d, g) → GapOk h₀ s Q d g)
    (done : ∀ m₁ nw₁ h' tk', CloJ w L KN kn k rows rows.length m₁ nw₁ → Fr h₀ L h' m₁ → News h₀ L h' nw₁ → Q .next { s with heap := h', toks := tk' }) :
    wpAny (model PySem.Challenge.pw_dw0016_02 w) (A.deeper (cloEnv L cd)) (exec (nth (stBody closedStmt) 1) (cloEnv L cd)) Q E { s with heap := h, toks := tk } := by
  dsimp only [Mine.cloEnv] at hE ⊢
  conv in (nth (stBody closedStmt) 1) => whnf
  refine For_invV h₀ rfl rfl ?_
  refine ldC F mC ?_
  refine list_loop (CloJ w L KN kn k rows) hh hrow F N hJ ?_ ?_
  · intro i v m₁ nw₁ h tk I io hv J hne F₁ N₁
    obtain ⟨mS, co, D, oD, kvs, d, rfl, hco, hD, hkd, hf, hnd, hdc, hsys⟩ := J
    have hi : i < rows.length := by rw [← hrs.1]; exact (List.getElem?_eq_some_iff.mp hv).1
    have hri : rows[i]? = some rows[i] := List.getElem?_eq_getElem hi
    have hmem : rows[i] ∈ rows := List.getElem_mem hi
    obtain ⟨t, e⟩ := hrs.2 i rows[i] hri
    rw [hv] at e
    obtain rfl := Option.some.inj e
    have hLI := hne _ (.head _)
    have hDI := hne _ (.tail _ (.head _))
    show wpAny _ _ (execs (nth (stLoopB cloFor) 0 :: cloWhl :: []) (cloEnv L cd)) _ _ _
    refine stop_cons ?_
    refine clo_first (s := s) (ex := [(I, io)]) X T hh F₁ (news_cons (N₁ _ (.tail _ (.head _))) (news_cons (N₁ _ (.tail _ (.tail _ (.head _)))) (news_cons (N₁ _ (.head _)) News.nil))) hco hD hsys (if_pos rfl) fun V h₂ tk₂ ws F₂ N₂ lt hws => ?_
    show wpAny _ _ (execs (cloWhl :: []) (cloEnv L cd)) _ _ _
    refine stop_cons ?_
    show wpAny _ _ (exec (.While (whTest cloWhl) (stLoopB cloWhl) [] _) (cloEnv L cd)) _ _ _
    refine whl_start 1 ?_
    have S₀ : ∀ wk, StrsAre ws wk → (∀ y ∈ wk, y ∈ cellNames) → wk.length ≤ 100 → ClSt w h₀ L D V KN [(I, io)] d wk h₂ (fun y => if y = Str.ofString "walk" then some (.ref V) else if y = Str.ofString "cell" then some (Value.str rows[i] t) else m₁ y) := fun wk h1 h2 h3 =>
      ⟨F₂, if_pos rfl, (by
        show (if Str.ofString "sums" = Str.ofString "walk" then _ else if Str.ofString "sums" = Str.ofString "cell" then _ else m₁ (Str.ofString "sums")) = _
        rw [if_neg (by decide), if_neg (by decide)]; exact mS), ⟨co, oD, kvs, ws, 0, news_cons (N₂ _ (.tail _ (.head _))) (news_cons (N₂ _ (.tail _ (.tail _ (.head _)))) (news_cons (N₂ _ (.head _)) (news_cons (N₂ _ (.tail _ (.tail _ (.tail _ (.head _))))) News.nil))), hco, hD, hkd, h1⟩, hnd, hdc, h2, h3, List.forall_mem_cons.mpr ⟨Ne.symm hDI, fun _ h => nomatch h⟩, List.forall_mem_cons.mpr ⟨Nat.ne_of_lt (lt _ (.tail _ (.tail _ (.head _)))), fun _ h => nomatch h⟩, hsys⟩
    by_cases hn : rows[i] ∈ kvs.map (·.1)
    · rw [if_pos hn] at hws
      refine clo_exit X T hh (by omega) hE (S₀ [] hws (fun _ h => nomatch h) (Nat.zero_le _)) fun h' tk' S' => ?_
      show wpAny _ _ (execs [] _) _ _ _
      refine wpAny_execs_nil ?_
      exact clo_end S' (by rw [foldV_take hri hf, vis_in (hkd ▸ hn)]) hLI
    · rw [if_neg hn] at hws
      have hn' : rows[i] ∉ d := by rw [← hkd]; exact hn
      refine clo_run X T hh (by omega) hE Kn hr k rows[i] d (hk _ hmem) hn' (S₀ [rows[i]] hws (fun y hy => (List.mem_singleton.mp hy) ▸ hrc _ hmem) (by simp)) (fun d' h' tk' m' hv' S' => ?_) fun d' g hv' => hgap d' g (foldV_gap hri hf hv')
      show wpAny _ _ (execs [] _) _ _ _
      refine wpAny_execs_nil ?_
      exact clo_end S' (by rw [foldV_take hri hf, hv']) hLI
  · intro m₁ nw₁ h' tk' J F' N'
    rw [hrs.1] at J
    exact done m₁ nw₁ h' tk' J F' N'
end
theorem closedT (bs : Base1 w base p loose mean mg mb) {g : Heap} {sheet KN T G row : Addr} {f : Str → Option Value} {kn : Str → Option (List Str)} {bv D : Str → Int} {rk : Str → Nat} {rvs : List Value} {rows : List Str} {k : Nat}
    (SI : SheetIs w base sheet KN T G f kn bv D) (hr : ∀ n as, kn n = some as → ∀ a ∈ as, rk a < rk n) (hrow : base.IsList row (List.toArray rvs)) (hrs : StrsAre rvs rows) (hrc : ∀ n ∈ rows, n ∈ cellNames) (hlen : rows.length ≤ 100) (hk : ∀ n ∈ rows, rk n < k) :
    Calls PySem.Challenge.pw_dw0016_02 w base [] 2 400 (fun h => ∀ a o, g.get? a = some o → (h.get? a).isSome = true) (.ref 60) [.ref row, .ref KN] []
      (fun r h' => ∃ t l vs c gv u d, r = Value.ref t ∧ g.get? t = none ∧ g.get? l = none ∧ h'.get? t = some (⟨.type "tuple", none, .seq #[.ref l, gv] u, #[]⟩ : Obj) ∧ h'.get? l = some (W.listOf (List.toArray vs) c) ∧ StrsAre vs d ∧
        ((gv = .none ∧ foldV (vis kn k) rows [] = .ok d) ∨ ∃ y yt, gv = .str y yt ∧ foldV (vis kn k) rows [] = .error (d, y))) (fun _ _ => False) := by
  refine' calls_cells (K := hd2.heap_39 w.params) (binds := [(Str.ofString "cells", .ref row), (Str.ofString "sums", .ref KN)]) (fun b hb => nomatch hb) bs.T.nolimit bs.K (by omega) ?ho ?hcd ?hbind ?hkind ?body ?hco ?hgen ?hk
  case ho => k_is
  case hcd => k_is
  case hbind => exact rfl
  case hkind =>
    intro n x hx
    rcases List.mem_cons.mp hx with rfl | hx
    · exact .inl rfl
    · rw [List.mem_singleton.mp hx]; exact .inl rfl
  case hco => exact rfl
  case hgen => exact rfl
  case hk => exact rfl
  intro A fr s L h₁ tk hA hg hh hroom hu ff hSf stg B F hcells st₁ hL
  have X := bs.K.keeps stg
  have Tp := bs.T.keeps stg
  obtain ⟨⟨co, hco, hcd⟩, hLc⟩ := hcells (Str.ofString "done") (L + 1) rfl
  have N : News (hideAll s.heap []) L h₁ [(L + 1, co)] := news_cons ⟨hco, Nat.ne_of_gt hLc, Heap.get?_none_of_le (Nat.le_trans F.above (Nat.le_of_lt hLc))⟩ News.nil
  have Kn := SI.keeps stg
  replace hrow : (hideAll s.heap []).IsList row (List.toArray rvs) := hrow.at fun o e => stg _ _ e
  have fresh : ∀ t, (hideAll s.heap []).get? t = none → g.get? t = none := fun t ht => by
    cases q : g.get? t with
    | none => rfl
    | some o =>
      obtain ⟨o', ho'⟩ := Option.isSome_iff_exists.mp (hg t o q)
      rw [hideAll_get [] ho' (fun h => nomatch h)] at ht; cases ht
  refine stop_cons ?_
  k_steps
  rename Obj.IsDictOf (PySem.strKind _ _) _ [] => hD0
  rename (_ == sysModules) = false => hsys
  rename Obj.data _ = Data.cell (some (Value.ref _)) => hco'
  rename Fr _ _ _ _ => F₂
  rename News _ _ _ _ => N₂
  show wpAny _ _ (execs (nth (stBody closedStmt) 1 :: nth (stBody closedStmt) 2 :: []) (cloEnv L (.ref 59))) _ _ _
  refine stop_cons ?_
  refine clo_for (s := s) X Tp hh (by omega) (by passes_own) Kn hr hrow hrs hrc hk rfl F₂ (nw := [(L + 1, _), (_, _)]) (news_cons (N₂ _ (.tail _ (.head _))) (news_cons (N₂ _ (.head _)) News.nil)) ⟨rfl, _, _, _, [], [], rfl, hco', hD0, rfl, rfl, .nil, (fun _ h => nomatch h), hsys⟩ (fun d g hfe => ?_) ?_
  · intro h' tk' t l vs c gt u st ht hl ht0 hl0 hvs
    exact Out.mk st ⟨t, l, vs, c, _, u, d, rfl, fresh t ht0, fresh l hl0, ht, hl, hvs, .inr ⟨_, gt, rfl, hfe⟩⟩
  · intro m₁ nw₁ h' tk' J F₃ N₃
    obtain ⟨mS, co₂, D₂, oD₂, kvs, d, rfl, hco₂, hD₂, hkd, hf, hnd, hdc, hsys₂⟩ := J
    rw [List.take_length] at hf
    clear F₂ N₂
    show wpAny _ _ (execs (nth (stBody closedStmt) 2 :: []) (cloEnv L (.ref 59))) _ _ _
    dsimp only [Mine.cloEnv]
    conv in (occs := *) (Mine.stScope Mine.closedStmt) => all_goals whnf
    conv in (nth (stBody closedStmt) 2) => whnf
    k_steps
    show wpAny _ _ (call _ _ _) _ _ _
    rename Fr _ _ _ _ => F₄
    rename News _ _ _ _ => N₄
    have hkl : kvs.length ≤ 66 := by
      have := hnd.length_le_of_subset hdc
      rw [← hkd, List.length_map] at this
      simpa [cellNames] using this
    refine keys_list hh F₄ N₄ (.tail _ (.head _)) hD₂ hsys₂ (by omega) fun B₅ c₅ h₅ tk₅ vs F₅ N₅ lt hvs => ?_
    clear F₄ N₄
    k_steps
    rename Fr _ _ _ _ => F₆
    rename News _ _ _ _ => N₆
    exact Out.mk F₆.keep ⟨_, B₅, vs, c₅, _, _, d, rfl, fresh _ (N₆ _ (.head _)).2.2, fresh _ (N₆ _ (.tail _ (.head _))).2.2, (N₆ _ (.head _)).1, (N₆ _ (.tail _ (.head _))).1, hkd ▸ hvs, .inl ⟨rfl, hf⟩⟩
end Mine
end -- U6
section -- W0
open PySem PySem.W PyProof.Rows PySem.Calls PySem.Spec
namespace Mine
/-! law 02, plain: the sheet's cells, what they add up, what is due -/
noncomputable def xAt (xs : List Int) (k : Nat) : Int := xs.getD k 0
noncomputable def idxs (xs : List Int) (k : Nat) : List Nat := if k = 0 then [] else [(((xAt xs k).fdiv 3).fmod k).toNat, ((((xAt xs k).fdiv 3).fdiv k).fmod k).toNat].take ((xAt xs k).fmod 3).toNat
noncomputable def bvN (xs : List Int) (k : Nat) : Int := (xAt xs k).fmod 100 - 50
noncomputable def dueL (xs : List Int) : Nat → List Int
  | 0 => []
  | k + 1 => dueL xs k ++ [bvN xs k + ((idxs xs k).map fun i => (dueL xs k).getD i 0).sum]
noncomputable def Dn (xs : List Int) (k : Nat) : Int := (dueL xs (k + 1)).getD k 0
theorem dueL_len (xs : List Int) : ∀ k, (dueL xs k).length = k
  | 0 => rfl
  | k + 1 => by simp [dueL, dueL_len xs k]
theorem dueL_get (xs : List Int) (i : Nat) : ∀ k, i < k → (dueL xs k).getD i 0 = Dn xs i
  | 0, h => absurd h (Nat.not_lt_zero _)
  | k + 1, h => by
    rcases Nat.lt_or_eq_of_le (Nat.le_of_lt_succ h) with q | rfl
    · rw [← dueL_get xs i k q]
      simp only [dueL, List.getD_eq_getElem?_getD]
      rw [List.getElem?_append_left (by rw [dueL_len]; exact q)]
    · rfl
theorem fmod_nat (a : Int) {k : Nat} (hk : 0 < k) : 0 ≤ a.fmod k ∧ a.fmod k < k := ⟨Int.fmod_nonneg_of_pos a (by omega), Int.fmod_lt_of_pos a (by omega)⟩
theorem idxs_lt {xs : List Int} {k i : Nat} (h : i ∈ idxs xs k) : i < k := by
  unfold idxs at h
  split at h
  · cases h
  · have hk : 0 < k := by omega
    have h1 := fmod_nat ((xAt xs k).fdiv 3) hk
    have h2 := fmod_nat (((xAt xs k).fdiv 3).fdiv k) hk
    have := List.mem_of_mem_take h
    simp only [List.mem_cons, List.not_mem_nil, or_false] at this
    rcases this with rfl | rfl <;> omega
theorem idxs_len (xs : List Int) (k : Nat) : (idxs xs k).length ≤ 2 := by
  unfold idxs
  split
  · simp
  · rw [List.length_take]; simp; omega
theorem Dn_eq (xs : List Int) (k : Nat) : Dn xs k = bvN xs k + ((idxs xs k).map (Dn xs)).sum := by
  unfold Dn
  simp only [dueL, List.getD_eq_getElem?_getD]
  rw [List.getElem?_append_right (by rw [dueL_len]; exact Nat.le_refl _), dueL_len, Nat.sub_self]
  show bvN xs k + _ = _
  congr 2
  refine List.map_congr_left fun i hi => ?_
  rw [← List.getD_eq_getElem?_getD, dueL_get xs i k (idxs_lt hi)]
  rfl
theorem bvN_le (xs : List Int) (k : Nat) : -50 ≤ bvN xs k ∧ bvN xs k ≤ 49 := by
  have h1 := Int.fmod_nonneg_of_pos (xAt xs k) (b := 100) (by decide)
  have h2 := Int.fmod_lt_of_pos (xAt xs k) (b := 100) (by decide)
  unfold bvN
  constructor <;> omega
theorem Dn_le (xs : List Int) : ∀ k i, i < k → -(50 * 2 ^ k) + 50 ≤ Dn xs i ∧ Dn xs i ≤ 50 * 2 ^ k - 50
  | 0, i, h => absurd h (Nat.not_lt_zero _)
  | k + 1, i, h => by
    have ih := Dn_le xs k
    have hp : (0 : Int) < 2 ^ k := Int.pow_pos (by decide)
    have e : (2 : Int) ^ (k + 1) = 2 * 2 ^ k := by rw [Int.pow_succ]; omega
    rw [e]
    generalize (2 : Int) ^ k = P at *
    rcases Nat.lt_or_eq_of_le (Nat.le_of_lt_succ h) with q | rfl
    · have := ih i q; omega
    · rw [Dn_eq]
      have h1 := bvN_le xs i
      have h2 := idxs_len xs i
      have h3 : ∀ j ∈ idxs xs i, j < i := fun j hj => idxs_lt hj
      match hq : idxs xs i, h2, h3 with
      | [], _, _ => simp; omega
      | [a], _, h3 =>
        have := ih a (h3 a (.head _))
        simp; omega
      | [a, b], _, h3 =>
        have q1 := ih a (h3 a (.head _))
        have q2 := ih b (h3 b (.tail _ (.head _)))
        simp; omega
theorem cells_nodup : cellNames.Nodup := by decide +kernel
noncomputable def rkN (n : Str) : Nat := cellNames.idxOf n
theorem rkN_cname {k : Nat} (h : k < 66) : rkN (cname k) = k := by
  have hl : k < cellNames.length := by simpa [cellNames] using h
  have e : cellNames[k] = cname k := by simp [cellNames]
  rw [rkN, ← e]
  exact cells_nodup.idxOf_getElem k hl
theorem rkN_le (n : Str) : rkN n ≤ 66 := by
  have h := List.idxOf_le_length (a := n) (l := cellNames)
  rw [show cellNames.length = 66 by simp [cellNames]] at h
  exact h
theorem cname_mem {k : Nat} (h : k < 66) : cname k ∈ cellNames := List.mem_map.mpr ⟨k, List.mem_range.mpr h, rfl⟩
theorem cname_rk {n : Str} (h : rkN n < 66) : cname (rkN n) = n := by
  have hl : rkN n < cellNames.length := by simpa [cellNames] using h
  have e : cellNames[rkN n] = cname (rkN n) := by simp [cellNames]
  rw [← e]
  exact List.getElem_idxOf hl
theorem cname_inj {i j : Nat} (hi : i < 66) (hj : j < 66) (h : cname i = cname j) : i = j := by
  rw [← rkN_cname hi, ← rkN_cname hj, h]
theorem cells_clean : ∀ n ∈ cellNames, Clean n ∧ n.length ≤ 100 := by
  have h : cellNames.all (fun n => (decide (44 ∉ n.cps.toList) && decide (61 ∉ n.cps.toList)) && decide (n.length ≤ 100)) = true := by decide +kernel
  intro n hn
  have := List.all_eq_true.mp h n hn
  simp only [Bool.and_eq_true, decide_eq_true_eq] at this
  exact ⟨this.1, this.2⟩
noncomputable def dueS (xs : List Int) (n : Str) : Int := Dn xs (rkN n)
noncomputable def bvS (xs : List Int) (n : Str) : Int := bvN xs (rkN n)
noncomputable def knS (xs : List Int) (keep : Nat → Bool) (n : Str) : Option (List Str) := if rkN n < xs.length ∧ keep (rkN n) = true then some ((idxs xs (rkN n)).map cname) else none
theorem dueS_le (xs : List Int) (n : Str) : -(2 ^ 100) < dueS xs n ∧ dueS xs n < 2 ^ 100 := by
  have h := Dn_le xs 67 (rkN n) (Nat.lt_succ_of_le (rkN_le n))
  have e : (50 : Int) * 2 ^ 67 < 2 ^ 100 := by decide
  unfold dueS
  constructor <;> omega
theorem dueS_cname {xs : List Int} {k : Nat} (h : k < 66) : dueS xs (cname k) = Dn xs k := by rw [dueS, rkN_cname h]
section
variable {xs : List Int} {keep : Nat → Bool} {n : Str} {as : List Str}
theorem knS_some (h : knS xs keep n = some as) : rkN n < xs.length ∧ keep (rkN n) = true ∧ as = (idxs xs (rkN n)).map cname := by
  unfold knS at h
  split at h
  · next c => exact ⟨c.1, c.2, (Option.some.inj h).symm⟩
  · cases h
theorem knS_adds (hl : xs.length ≤ 66) (h : knS xs keep n = some as) : ∀ a ∈ as, a ∈ cellNames ∧ rkN a < rkN n := by
  obtain ⟨h1, _, rfl⟩ := knS_some h
  intro a ha
  obtain ⟨i, hi, rfl⟩ := List.mem_map.mp ha
  have := idxs_lt hi
  exact ⟨cname_mem (by omega), by rw [rkN_cname (by omega)]; exact this⟩
theorem knS_due (hl : xs.length ≤ 66) (h : knS xs keep n = some as) : dueS xs n = bvS xs n + (as.map (dueS xs)).sum := by
  obtain ⟨h1, _, rfl⟩ := knS_some h
  rw [dueS, bvS, Dn_eq, List.map_map]
  congr 2
  refine List.map_congr_left fun i hi => ?_
  have := idxs_lt hi
  exact (dueS_cname (by omega)).symm
end
end Mine
end -- W0
section -- W1
open PySem PySem.W PyProof.Rows PySem.Calls PySem.Spec
set_option maxHeartbeats 8000000
namespace Mine
local macro_rules | `(tactic| walk_at "no key of any") => `(tactic| skip)
variable {w : World} {base : Heap} {p : Program} {loose : List Str} {mean : ExcName → Option Value} {mg mb : Str → Option Value}
/-! law's frame: its cells read and stored, whatever the ledger -/
noncomputable def lwStmt : Stmt := nth PySem.Challenge.pw_dw0016_02.main.body 6
noncomputable def lwBody : List Stmt := stBody lwStmt
noncomputable abbrev lwEnv (L fa : Addr) (cd : Value) : Env := envOfC (Str.ofString "law") (stScope lwStmt) L fa cd
section
variable {M : Model} {A : Around} {E : Value → Shared → Prop} {s : Shared} {h₀ : Heap} {L a c : Addr} {cd : Value} {name : Str} {scope : Scope} {m : Str → Option Value} {x : Str} {led : List (Addr × Obj)} {co : Obj}
theorem ldCe {pos : Pos} {v : Value} {Q : Value → Shared → Prop} (N : News h₀ L s.heap led) (hc : (envOfC name scope L a cd).cells.lookup x = some c) (hm : (c, co) ∈ led) (hco : co.data = .cell (some v)) (h : Q v s)
    (hk : scope.kind = .function := by rfl) (hl : (envOfC name scope L a cd).kindOf x = some .cell := by rfl) (hd : (x == ("__debug__" : Str)) = false := by decide) :
    wpAny M A (eval (.Name x pos) (envOfC name scope L a cd)) Q E s := wpAny_Name (wpAny_loadName_cell hk hl hc ⟨co, (N _ hm).1, hco⟩ h) hd
theorem stCe {v₀ : Option Value} {v : Value} {Q : Unit → Shared → Prop} (F : Fr h₀ L s.heap m) (N : News h₀ L s.heap led) (hc : (envOfC name scope L a cd).cells.lookup x = some c) (hm : (c, co) ∈ led) (hco : co.data = .cell v₀)
    (h : ∀ h' co' led', Fr h₀ L h' m → News h₀ L h' led' → Turned led led' c co' → co'.data = .cell (some v) → Q () { s with heap := h' })
    (hk : scope.kind = .function := by rfl) (hl : (envOfC name scope L a cd).kindOf x = some .cell := by rfl) :
    wpAny M A (storeName (envOfC name scope L a cd) x v) Q E s := by
  have z := N _ hm
  refine wpAny_storeName_cell hk hl hc ⟨co, z.1, hco⟩ fun h' hi hs => ?_
  obtain ⟨co', hco', hd⟩ := hi
  exact h h' co' _ (F.change hs z.2.1 z.2.2) (news_put N hm hs hco') (put_turned hm) hd
end
local macro_rules | `(tactic| walk_at "nm val") => `(tactic| first | assumption | rfl | exact Mine.up_ne (by assumption) (by decide) | exact Mine.up_ne (Mine.up_ne (by assumption) (by decide)) (by decide))
local macro_rules | `(tactic| walk_at "lm") => `(tactic| first | assumption | exact List.Mem.tail _ (by assumption) | exact List.Mem.tail _ (List.Mem.tail _ (by assumption)) | exact List.Mem.tail _ (List.Mem.tail _ (List.Mem.tail _ (by assumption))))
local macro_rules | `(tactic| walk_at "eval Name") => `(tactic| first
  | (name_kind "local"; (rename Fr _ _ _ _ => F'); with_unfolding_all refine Mine.ldC F' (by walk_at "nm val") ?_)
  | (name_kind "cell"; (rename News _ _ _ _ => N'); with_unfolding_all refine Mine.ldCe N' (by rfl) (by walk_at "lm") (by assumption) ?_))
theorem stopCell {M : Model} {A : Around} {E : Value → Shared → Prop} {s : Shared} {env : Env} {x : Str} {v : Value} {Q : Unit → Shared → Prop} (hl : env.kindOf x = some .cell) (h : Stop (wpAny M A (storeName env x v) Q E s)) : wpAny M A (storeName env x v) Q E s := h
local macro_rules | `(tactic| walk_at "storeName") => `(tactic| with_unfolding_all refine Mine.stopCell (by rfl) ?_)
/-- the seven cells of the frame, and other things that stand in the ledger -/
structure LwC (L : Addr) (cv : Nat → Option Value) (stuff led : List (Addr × Obj)) : Prop where
  cells : ∀ j, 1 ≤ j → j ≤ 7 → ∃ co, (L + j, co) ∈ led ∧ co.data = .cell (cv j)
  sub : ∀ q ∈ stuff, q ∈ led
  off : ∀ q ∈ stuff, ∀ j, 1 ≤ j → j ≤ 7 → q.1 ≠ L + j
noncomputable def setCv (cv : Nat → Option Value) (j : Nat) (v : Value) : Nat → Option Value := fun i => if i = j then some v else cv i
section
variable {L : Addr} {cv : Nat → Option Value} {stuff led led' : List (Addr × Obj)}
theorem LwC.store {j : Nat} {co' : Obj} {v : Value} (S : LwC L cv stuff led) (h1 : 1 ≤ j) (h7 : j ≤ 7) (Tu : Turned led led' (L + j) co') (hd : co'.data = .cell (some v)) : LwC L (setCv cv j v) stuff led' := by
  refine ⟨fun i i1 i7 => ?_, fun q hq => Tu.old q (S.sub q hq) (S.off q hq j h1 h7), S.off⟩
  by_cases e : i = j
  · subst e
    exact ⟨co', Tu.new, by rw [hd, setCv, if_pos rfl]⟩
  · obtain ⟨co, a, b⟩ := S.cells i i1 i7
    exact ⟨co, Tu.old _ a fun q => e (Nat.add_left_cancel q), by rw [b, setCv, if_neg e]⟩
theorem LwC.push (S : LwC L cv stuff led) (hs : ∀ q ∈ led, q ∈ led') : LwC L cv stuff led' :=
  ⟨fun j a b => let ⟨co, x, y⟩ := S.cells j a b; ⟨co, hs _ x, y⟩, fun q hq => hs q (S.sub q hq), S.off⟩
theorem LwC.add {q : Addr × Obj} (S : LwC L cv stuff led) (hq : q ∈ led) (h7 : L + 7 < q.1) : LwC L cv (q :: stuff) led :=
  ⟨S.cells, List.forall_mem_cons.mpr ⟨hq, S.sub⟩, List.forall_mem_cons.mpr ⟨fun j _ b e => absurd h7 (Nat.not_lt.mpr (e ▸ Nat.add_le_add_left b L)), S.off⟩⟩
theorem LwC.less {stuff' : List (Addr × Obj)} (S : LwC L cv stuff led) (h : ∀ q ∈ stuff', q ∈ stuff) : LwC L cv stuff' led := ⟨S.cells, fun q hq => S.sub q (h q hq), fun q hq => S.off q (h q hq)⟩
theorem LwC.turn {D : Addr} {o' : Obj} {stuff' : List (Addr × Obj)} (S : LwC L cv stuff led) (Tu : Turned led led' D o') (h7 : L + 7 < D) (hs : ∀ q ∈ stuff', q = (D, o') ∨ (q ∈ stuff ∧ q.1 ≠ D)) : LwC L cv stuff' led' := by
  have off : ∀ j, j ≤ 7 → D ≠ L + j := fun j b e => absurd h7 (Nat.not_lt.mpr (e ▸ Nat.add_le_add_left b L))
  refine ⟨fun j a b => let ⟨co, x, y⟩ := S.cells j a b; ⟨co, Tu.old _ x (Ne.symm (off j b)), y⟩, fun q hq => ?_, fun q hq => ?_⟩
  · rcases hs q hq with rfl | ⟨x, y⟩
    · exact Tu.new
    · exact Tu.old q (S.sub q x) y
  · rcases hs q hq with rfl | ⟨x, y⟩
    · exact fun j _ b => off j b
    · exact S.off q x
theorem LwC.at {h₀ h : Heap} (S : LwC L cv stuff led) (N : News h₀ L h led') (hs : ∀ q ∈ led, q ∈ led') : LwC L cv stuff led' := S.push hs
theorem LwC.above (S : LwC L cv stuff led) {V : Addr} (h : ∀ q ∈ led, q.1 < V) : L + 7 < V := let ⟨_, a, _⟩ := S.cells 7 (by decide) (by decide); h _ a
end
section
variable {A : Around} {fr : List Env} {s : Shared} {h : Heap} {L fa : Addr} {cd : Value} {tk : Nat} {m : Str → Option Value} {E : Value → Shared → Prop} {Q : Flow → Shared → Prop} {sc : Addr} {vs : List Value} {ns : List Int}
theorem lw_start (bs : Base1 w base p loose mean mg mb) (B : Below A base fr base) (hh : A.handled = none) (hroom : A.depth + 560 < recursionLimit) (hu : A.units + 9000 < cLine) {led rest : List (Addr × Obj)}
    (F : Fr base L h m) (N : News base L h led) (S : LwC L (fun _ => none) rest led)
    (hsc : m (Str.ofString "script") = some (Value.ref sc)) (hl : base.IsList sc (List.toArray vs)) (hI : IntsAre vs ns) (hn : ns.length ≤ 63)
    (k : ∀ h' tk' led' SC NU CE DU SU svs nv oD oS, Fr base L h' (fun y => if y = Str.ofString "script" then some (Value.ref SC) else m y) → News base L h' led' →
      LwC L (setCv (setCv (setCv (setCv (fun _ => none) 1 (.ref NU)) 2 (.ref CE)) 3 (.ref DU)) 4 (.ref SU)) ((SU, oS) :: (DU, oD) :: (CE, W.listOf (List.toArray []) 0) :: (NU, W.listOf (List.toArray nv) 0) :: (SC, W.listOf (List.toArray svs) 0) :: rest) led' →
      IntsAre svs (ns.take 63) → IntsAre nv ([1, 5, 17] ++ ns.take 63) → oD.IsDictOf (strKind PySem.Challenge.pw_dw0016_02 w) [] → oS.IsDictOf (strKind PySem.Challenge.pw_dw0016_02 w) [] → (DU == sysModules) = false → (SU == sysModules) = false → (L + 7 < SC ∧ SC < NU ∧ NU < CE ∧ CE < DU ∧ DU < SU) →
      wpAny (model PySem.Challenge.pw_dw0016_02 w) (A.deeper (lwEnv L fa cd)) (execs (lwBody.drop 3) (lwEnv L fa cd)) Q E { s with heap := h', toks := tk' }) :
    wpAny (model PySem.Challenge.pw_dw0016_02 w) (A.deeper (lwEnv L fa cd)) (execs (nth lwBody 0 :: nth lwBody 1 :: nth lwBody 2 :: lwBody.drop 3) (lwEnv L fa cd)) Q E { s with heap := h, toks := tk } := by
  have X := bs.K
  have T := bs.T
  refine stop_cons ?_
  dsimp only [Mine.lwEnv]
  conv in (occs := *) (Mine.stScope Mine.lwStmt) => all_goals whnf
  conv in (nth lwBody 0) => whnf
  k_steps
  rename Addr => SC
  rename List Value => svs
  rename Fr _ _ _ _ => F₁
  rename News _ _ _ _ => N₁
  have lS : ∀ q ∈ led, q.1 < SC := by assumption
  have hIs := ‹IntsAre svs (List.take 63 ns)›
  show wpAny _ _ (execs (nth lwBody 1 :: nth lwBody 2 :: lwBody.drop 3) (lwEnv L fa cd)) _ _ _
  refine stop_cons ?_
  dsimp only [Mine.lwEnv]
  conv in (occs := *) (Mine.stScope Mine.lwStmt) => all_goals whnf
  conv in (nth lwBody 1) => whnf
  k_steps
  rename Addr => NU
  rename List Value => nv
  rename Fr _ _ _ _ => F₂
  rename News _ _ _ _ => N₂
  have lN := ‹_ < NU ∧ SC < NU ∧ _›
  have hIn := ‹IntsAre nv _›
  have S₁ := (S.push (led' := (SC, W.listOf (List.toArray svs) 0) :: led) fun q hq => .tail _ hq).add (.head _) (S.above lS)
  have S₂ := (S₁.at N₂ fun q hq => .tail _ (.tail _ hq)).add (q := (NU, W.listOf (List.toArray nv) 0)) (.head _) (Nat.lt_trans (S.above lS) lN.2.1)
  obtain ⟨co1, e1, d1⟩ := S₂.cells 1 (by decide) (by decide)
  refine stCe F₂ N₂ rfl e1 d1 fun h₃ co' led₁ F₃ N₃ Tu hd => ?_
  replace S₂ := S₂.store (by decide) (by decide) Tu hd
  have eN := S₂.sub _ (.head _)
  have lSN := lN.2.1
  clear F₂ N₂ Tu lN S₁ e1 d1
  show wpAny _ _ (execs (nth lwBody 2 :: lwBody.drop 3) (lwEnv L fa cd)) _ _ _
  refine stop_cons ?_
  dsimp only [Mine.lwEnv]
  conv in (occs := *) (Mine.stScope Mine.lwStmt) => all_goals whnf
  conv in (nth lwBody 2) => whnf
  k_steps
  show wpAny _ _ (assign _ _ _) _ _ _
  rename_i CE _ l1 DU _ oDU sD hD _ _ _ l2 SU _ oSU sS hS _ _ _ l3 TP _ F₄ N₄ l4
  refine wpAny_assign_Tuple hh ⟨_, (N₄ _ (.head _)).1, rfl, _, rfl⟩ rfl rfl fun h₅ he₅ => ?_
  have st₅ : Heap.StaysIn _ h₅ := fun b o e => he₅ b o (Nat.ne_of_lt (Heap.lt_size e)) e
  have F₅ := F₄.keeps st₅
  have N₅ := N₄.keeps st₅
  have S₃ := (S₂.push (led' := (CE, W.listOf (List.toArray []) 0) :: led₁) fun q hq => .tail _ hq).add (.head _) (S₂.above l1)
  have l5 : L + 7 < DU := Nat.lt_trans (S₂.above l1) l2.1
  have S₄ := (S₃.push (led' := (DU, oDU) :: (CE, W.listOf (List.toArray []) 0) :: led₁) fun q hq => .tail _ hq).add (.head _) l5
  have S₅ := (S₄.push (led' := (SU, oSU) :: (DU, oDU) :: (CE, W.listOf (List.toArray []) 0) :: led₁) fun q hq => .tail _ hq).add (.head _) (Nat.lt_trans l5 l3.1)
  have S₆ := S₅.at N₅ fun q hq => .tail _ hq
  have lNC : NU < CE := l1 _ eN
  clear F₄ N₄ st₅ S₃ S₄ S₅ S₂ eN
  k_steps
  rename Fr _ _ _ _ => F₆
  rename News _ _ _ _ => N₆
  obtain ⟨co2, e2, d2⟩ := S₆.cells 2 (by decide) (by decide)
  refine stCe F₆ N₆ rfl e2 d2 fun h₃ co' led₂ F₃ N₃ Tu hd => ?_
  replace S₆ := S₆.store (j := 2) (by decide) (by decide) Tu hd
  clear F₆ N₆ Tu e2 d2
  k_steps
  rename Fr _ _ _ _ => F₆
  rename News _ _ _ _ => N₆
  obtain ⟨co2, e2, d2⟩ := S₆.cells 3 (by decide) (by decide)
  refine stCe F₆ N₆ rfl e2 d2 fun h₃ co' led₂ F₃ N₃ Tu hd => ?_
  replace S₆ := S₆.store (j := 3) (by decide) (by decide) Tu hd
  clear F₆ N₆ Tu e2 d2
  k_steps
  rename Fr _ _ _ _ => F₆
  rename News _ _ _ _ => N₆
  obtain ⟨co2, e2, d2⟩ := S₆.cells 4 (by decide) (by decide)
  refine stCe F₆ N₆ rfl e2 d2 fun h₃ co' led₂ F₃ N₃ Tu hd => ?_
  replace S₆ := S₆.store (j := 4) (by decide) (by decide) Tu hd
  clear F₆ N₆ Tu e2 d2
  k_steps
  rename Fr _ _ _ _ => F₆
  rename News _ _ _ _ => N₆
  exact k _ _ _ SC NU CE DU SU svs nv oDU oSU F₆ N₆ S₆ hIs hIn hD hS sD sS ⟨S.above lS, lSN, lNC, l2.1, l3.1⟩
end
end Mine
end -- W1
section -- W2
open PySem PySem.W PyProof.Rows PySem.Calls PySem.Spec
set_option maxHeartbeats 8000000
namespace Mine
variable {w : World} {base : Heap} {p : Program} {loose : List Str} {mean : ExcName → Option Value} {mg mb : Str → Option Value}
local macro_rules | `(tactic| walk_at "nm val") => `(tactic| first | assumption | rfl | exact Mine.up_ne (by assumption) (by decide) | exact Mine.up_ne (Mine.up_ne (by assumption) (by decide)) (by decide))
local macro_rules | `(tactic| walk_at "lm") => `(tactic| first | assumption | exact List.Mem.tail _ (by assumption) | exact List.Mem.tail _ (List.Mem.tail _ (by assumption)) | exact List.Mem.tail _ (List.Mem.tail _ (List.Mem.tail _ (by assumption))))
local macro_rules | `(tactic| walk_at "eval Name") => `(tactic| first
  | (name_kind "local"; (rename Fr _ _ _ _ => F'); with_unfolding_all refine Mine.ldC F' (by walk_at "nm val") ?_)
  | (name_kind "cell"; (rename News _ _ _ _ => N'); with_unfolding_all refine Mine.ldCe N' (by rfl) (by walk_at "lm") (by assumption) ?_))
local macro_rules | `(tactic| walk_at "subscriptTail Name Name ref int") => `(tactic| refine Mine.Stop.mk ?_)
local macro_rules | `(tactic| walk_at "subscriptTail Name BinOp ref int") => `(tactic| refine Mine.Stop.mk ?_)
local macro_rules | `(tactic| walk_at "getMethod ref") => `(tactic| refine Mine.Stop.mk ?_)
local macro_rules | `(tactic| walk_at "call builtin:list.append cons nil") => `(tactic| refine Mine.Stop.mk ?_)
local macro_rules | `(tactic| walk_at "setItem ref str ref") => `(tactic| refine Mine.Stop.mk ?_)
local macro_rules | `(tactic| walk_at "setItem ref str int") => `(tactic| refine Mine.Stop.mk ?_)
local macro_rules | `(tactic| walk_at "eval ListComp") => `(tactic| refine Mine.Stop.mk ?_)
local macro_rules | `(tactic| walk_at "unpackItems ref") => `(tactic| (k_here; (refine unpackItemsN_ (by k_asm) (by k_asm) (by kun_tup) (by assumption) (by rfl) ?_); intro h' F' N'; (try k_sweep)))
local macro_rules | `(tactic| walk_at "subscriptTail List cons Slice ref ref") => `(tactic| refine Mine.Stop.mk ?_)
local macro_rules | `(tactic| walk_at "call builtin:sum cons nil") => `(tactic| refine Mine.Stop.mk ?_)
/-! a turn of the loop that builds the sheet, statement by statement -/
noncomputable def ltLoop : List Stmt := stLoopB (nth lwBody 3)
theorem put_both {h₀ h h' : Heap} {L D : Addr} {o o' : Obj} {news : List (Addr × Obj)} (N : News h₀ L h news) (hm : (D, o) ∈ news) (hs : Heap.SameBut D h h') (ho : h'.get? D = some o') : ∃ news', News h₀ L h' news' ∧ Turned news news' D o' := ⟨_, news_put N hm hs ho, put_turned hm⟩
noncomputable def compElt : PySem.Expr → PySem.Expr
  | .ListComp e _ _ _ => e
  | e => e
noncomputable def binR : PySem.Expr → PySem.Expr
  | .BinOp _ _ r _ => r
  | e => e
noncomputable def callArg : PySem.Expr → PySem.Expr
  | .Call _ (a :: _) _ _ => a
  | e => e
noncomputable def sumComp : PySem.Expr := callArg (binR (asgVal (nth ltLoop 4)))
section
local macro_rules | `(tactic| walk_at "eval Name") => `(tactic| first
  | (refine lcf_cell (by assumption) (by rfl) (List.Mem.tail _ (List.Mem.head _)) (by assumption) ?_ (by rfl) (by rfl))
  | (refine LCgL.ld_own (by assumption) (List.Mem.head _) (by assumption) (by assumption) ?_))
variable {A : Around} {E : Value → Shared → Prop} {s : Shared} {L C D fa : Addr} {cd : Value} {m₃ : Str → Option Value} {co oC : Obj} {x : Str} {xt : Tok} {h₀ : Heap} {f : Str → Option Value} {v : Value}
theorem due_elt (N : News h₀ L s.heap [(C, oC), (L + 3, co)]) (hC : LCg.NsObj oC m₃) (hco : co.data = .cell (some (.ref D))) (hx : m₃ (Str.ofString "other") = some (Value.str x xt))
    (hm : s.heap.MapOf (strKind PySem.Challenge.pw_dw0016_02 w) D f) (hf : f x = some v) :
    wpAny (model PySem.Challenge.pw_dw0016_02 w) A (eval (compElt sumComp) (compEnvC (compScope sumComp) [(Str.ofString "due", L + 3)] C (lwEnv L fa cd)))
      (fun r s₄ => r = v ∧ ∃ h' tk, s₄ = { s with heap := h', toks := tk } ∧ s.heap.StaysIn h') E s := by
  dsimp only [Mine.lwEnv]
  conv in (occs := *) (Mine.stScope Mine.lwStmt) => all_goals whnf
  conv in (occs := *) (compElt sumComp) => all_goals whnf
  conv in (occs := *) (compScope sumComp) => all_goals whnf
  k_steps
  refine dict_at hm hf ?_
  exact ⟨rfl, _, _, rfl, fun _ _ e => e⟩
end
theorem item_MI {prog : Program} {A : Around} {E : Value → Shared → Prop} {s : Shared} {h₀ : Heap} {L : Addr} {news : List (Addr × Obj)} {value slice : PySem.Expr} {l : Addr} {vs : List Value} {k : Nat} {i : Int} {u : Tok} {v : Value} {Q : Value → Shared → Prop} (N : News h₀ L s.heap news) (hm : (l, W.listOf vs.toArray k) ∈ news) (h0 : 0 ≤ i) (hfit : i < 2 ^ 60) (hx : vs[i.toNat]? = some v) (h : Q v s)
    (hs : subscripted slice false (.ref l) (.int i u) = operate [.ref l, .int i u] (getItem (.ref l) (.int i u)) := by with_unfolding_all rfl) :
    wpAny (model prog w) A (subscriptTail value slice (.ref l) (.int i u)) Q E s :=
  have hl' : s.heap.IsList l vs.toArray := ⟨_, (N _ hm).1, rfl, _, rfl⟩
  tail_any hl'.typeIs slot_list_getitem.lookup (wpAny_getItem_list hl' h0 (by omega) (by simpa using hx) h) hs
section
variable {A : Around} {fr : List Env} {s : Shared} {h₀ h : Heap} {L fa : Addr} {cd : Value} {tk : Nat} {m : Str → Option Value} {led : List (Addr × Obj)} {E : Value → Shared → Prop} {Q : Flow → Shared → Prop}
  {NU CE DU SU : Addr} {co1 co2 co3 co4 : Obj} {nv cvs : List Value} {c cc : Nat} {x q : Int} {tx tq tkk : Tok} {k : Nat}
theorem lt0 (X : (hd2.heap_39 w.params).In h₀) (T : Top p loose mean mg mb h₀) (B : Below A base fr h₀) (hh : A.handled = none) (hroom : A.depth + 1 < recursionLimit) (hu : A.units + 60 < cLine)
    (F : Fr h₀ L h m) (N : News h₀ L h led) (e1 : (L + 1, co1) ∈ led) (d1 : co1.data = .cell (some (.ref NU))) (hN : (NU, W.listOf (List.toArray nv) c) ∈ led) (hk : nv[k]? = some (.int x tx)) (hk6 : k < 1000) (mk : m (Str.ofString "k") = some (.int (k : Int) tkk))
    (kk : ∀ h' tk' led' tq, Fr h₀ L h' (fun y => if y = Str.ofString "x" then some (.int x tx) else if y = Str.ofString "q" then some (.int (x.fdiv 3) tq) else m y) → News h₀ L h' led' → (∀ q ∈ led, q ∈ led') → Q .next { s with heap := h', toks := tk' }) :
    wpAny (model PySem.Challenge.pw_dw0016_02 w) (A.deeper (lwEnv L fa cd)) (exec (nth ltLoop 0) (lwEnv L fa cd)) Q E { s with heap := h, toks := tk } := by
  dsimp only [Mine.lwEnv]
  conv in (occs := *) (Mine.stScope Mine.lwStmt) => all_goals whnf
  conv in (nth ltLoop 0) => whnf
  k_steps
  refine item_M (i := k) (by assumption) hN (by omega) hk ?_
  k_steps
  refine item_M (i := k) (by assumption) hN (by omega) hk ?_
  k_steps
  rename Fr _ _ _ _ => F₆
  rename News _ _ _ _ => N₆
  exact kk _ _ _ _ F₆ N₆ fun z hz => .tail _ hz
theorem lt1z (X : (hd2.heap_39 w.params).In h₀) (T : Top p loose mean mg mb h₀) (B : Below A base fr h₀) (hh : A.handled = none) (hroom : A.depth + 1 < recursionLimit) (hu : A.units + 60 < cLine)
    (F : Fr h₀ L h m) (N : News h₀ L h led) (mk : m (Str.ofString "k") = some (.int 0 tkk))
    (kk : ∀ h' tk' V, Fr h₀ L h' (fun y => if y = Str.ofString "adds" then some (.ref V) else m y) → News h₀ L h' ((V, W.listOf (List.toArray []) 0) :: led) → (∀ q ∈ led, q.1 < V) → Q .next { s with heap := h', toks := tk' }) :
    wpAny (model PySem.Challenge.pw_dw0016_02 w) (A.deeper (lwEnv L fa cd)) (exec (nth ltLoop 1) (lwEnv L fa cd)) Q E { s with heap := h, toks := tk } := by
  dsimp only [Mine.lwEnv]
  conv in (occs := *) (Mine.stScope Mine.lwStmt) => all_goals whnf
  conv in (nth ltLoop 1) => whnf
  k_steps
  rename Addr => V
  exact kk _ _ V (by assumption) (by assumption) (by assumption)
theorem lt1 (X : (hd2.heap_39 w.params).In h₀) (T : Top p loose mean mg mb h₀) (B : Below A base fr h₀) (hh : A.handled = none) (hroom : A.depth + 1 < recursionLimit) (hu : A.units + 60 < cLine)
    (F : Fr h₀ L h m) (N : News h₀ L h led) (e2 : (L + 2, co2) ∈ led) (d2 : co2.data = .cell (some (.ref CE))) (hC : (CE, W.listOf (List.toArray cvs) cc) ∈ led) (hcl : cvs.length = k) (hk6 : k < 1000) (hk0 : 0 < k) (mk : m (Str.ofString "k") = some (.int (k : Int) tkk)) (mx : m (Str.ofString "x") = some (.int x tx)) (mq : m (Str.ofString "q") = some (.int q tq)) {v1 v2 : Value} (h1 : cvs[(q.fmod k).toNat]? = some v1) (h2 : cvs[((q.fdiv k).fmod k).toNat]? = some v2)
    (kk : ∀ h' tk' led' V c', Fr h₀ L h' (fun y => if y = Str.ofString "adds" then some (.ref V) else m y) → News h₀ L h' ((V, W.listOf (List.toArray ([v1, v2].take (x.fmod 3).toNat)) c') :: led') → (∀ q ∈ led, q ∈ led') → (∀ q ∈ led, q.1 < V) → Q .next { s with heap := h', toks := tk' }) :
    wpAny (model PySem.Challenge.pw_dw0016_02 w) (A.deeper (lwEnv L fa cd)) (exec (nth ltLoop 1) (lwEnv L fa cd)) Q E { s with heap := h, toks := tk } := by
  dsimp only [Mine.lwEnv]
  conv in (occs := *) (Mine.stScope Mine.lwStmt) => all_goals whnf
  conv in (nth ltLoop 1) => whnf
  have hkz : (k : Int) ≠ 0 := by omega
  have hkp : (0 : Int) < k := by omega
  have f1 := fmod_nat q hk0
  have f2 := fmod_nat (q.fdiv k) hk0
  k_steps
  refine item_MI (by assumption) hC f1.1 (by omega) h1 ?_
  k_steps
  refine item_MI (by assumption) hC f2.1 (by omega) h2 ?_
  k_steps
  show wpAny _ _ (subscriptTail _ _ _ _) _ _ _
  rename Fr _ _ _ _ => F₂
  rename News _ _ _ _ => N₂
  have h3 : x.fmod 3 = 0 ∨ x.fmod 3 = 1 ∨ x.fmod 3 = 2 := by
    have a := Int.fmod_nonneg_of_pos x (b := 3) (by decide)
    have b := Int.fmod_lt_of_pos x (b := 3) (by decide)
    omega
  have key : ∀ i : Int, (i = 0 ∨ i = 1 ∨ i = 2) → (slicePick (List.toArray [v1, v2]) none (some i) none).toList = List.take i.toNat [v1, v2] := by rintro _ (rfl | rfl | rfl) <;> rfl
  refine kba_turn (value' := .Name Str.empty ⟨0, 0, 0, 0⟩) (by intro _; with_unfolding_all rfl) ?_
  refine kmk_slice_lit (zs := List.take (x.fmod 3).toNat [v1, v2]) F₂ N₂ ⟨_, (N₂ _ (.head _)).1, rfl, _, rfl⟩ .none (.int _ _) (key _ h3) (fun D h' F' N' l1 => ?_) (by with_unfolding_all rfl) (by intro _; with_unfolding_all rfl) (by show 2 ≤ sizeLine; decide)
  clear F₂ N₂
  k_steps
  rename Fr _ _ _ _ => F₆
  rename News _ _ _ _ => N₆
  exact kk _ _ _ D 0 F₆ N₆ (fun z hz => .tail _ hz) fun q hq => l1 q (.tail _ hq)
theorem lt2 (X : (hd2.heap_39 w.params).In h₀) (T : Top p loose mean mg mb h₀) (B : Below A base fr h₀) (hh : A.handled = none) (hroom : A.depth + 1 < recursionLimit) (hu : A.units + 60 < cLine)
    (F : Fr h₀ L h m) (N : News h₀ L h led) (e2 : (L + 2, co2) ∈ led) (d2 : co2.data = .cell (some (.ref CE))) (hC : (CE, W.listOf (List.toArray cvs) cc) ∈ led) (hcl : cvs.length ≤ 1000) (hk6 : k < 1000) (mk : m (Str.ofString "k") = some (.int (k : Int) tkk))
    (kk : ∀ h' tk' led' t, Fr h₀ L h' m → News h₀ L h' led' → Turned led led' CE (W.listOf (List.toArray (cvs ++ [Value.str (cname k) t])) (cc + 1)) → Q .next { s with heap := h', toks := tk' }) :
    wpAny (model PySem.Challenge.pw_dw0016_02 w) (A.deeper (lwEnv L fa cd)) (exec (nth ltLoop 2) (lwEnv L fa cd)) Q E { s with heap := h, toks := tk } := by
  dsimp only [Mine.lwEnv]
  conv in (occs := *) (Mine.stScope Mine.lwStmt) => all_goals whnf
  conv in (nth ltLoop 2) => whnf
  k_steps
  refine method_M PySem.F.slot_list_append PySem.F.type_list_append (by assumption) hC ?_
  k_steps
  show wpAny _ _ (call _ _ _) _ _ _
  rename Fr _ _ _ _ => F₂
  rename News _ _ _ _ => N₂
  refine append_M F₂ N₂ hC (by omega) fun h₅ nw F₅ N₅ Tu => ?_
  clear F₂ N₂
  k_steps
  rename Fr _ _ _ _ => F₆
  rename News _ _ _ _ => N₆
  exact kk _ _ _ _ F₆ N₆ Tu
theorem lt3 (X : (hd2.heap_39 w.params).In h₀) (T : Top p loose mean mg mb h₀) (B : Below A base fr h₀) (hh : A.handled = none) (hroom : A.depth + 1 < recursionLimit) (hu : A.units + 60 < cLine)
    (F : Fr h₀ L h m) (N : News h₀ L h led) (e2 : (L + 2, co2) ∈ led) (d2 : co2.data = .cell (some (.ref CE))) (hC : (CE, W.listOf (List.toArray cvs) cc) ∈ led) (hk6 : k < 1000) (mk : m (Str.ofString "k") = some (.int (k : Int) tkk)) {n : Str} {tn : Tok} (hcv : cvs[k]? = some (.str n tn))
    (e4 : (L + 4, co4) ∈ led) (d4 : co4.data = .cell (some (.ref SU))) {oS : Obj} {kvs : List (Str × Value)} (hS : (SU, oS) ∈ led) (hSd : oS.IsDictOf (strKind PySem.Challenge.pw_dw0016_02 w) kvs) (hkl : kvs.length ≤ 1000) (hnew : n ∉ kvs.map (·.1)) {AD : Addr} (mx : m (Str.ofString "x") = some (.int x tx)) (ma : m (Str.ofString "adds") = some (.ref AD))
    (kk : ∀ h' tk' led' tup t oS', Fr h₀ L h' m → News h₀ L h' led' → Turned ((tup, (⟨.type "tuple", none, .seq #[.ref AD, .int (x.fmod 100 - 50) t] 0, #[]⟩ : Obj)) :: led) led' SU oS' → oS'.IsDictOf (strKind PySem.Challenge.pw_dw0016_02 w) (kvs ++ [(n, .ref tup)]) → (∀ q ∈ led, q.1 < tup) → Q .next { s with heap := h', toks := tk' }) :
    wpAny (model PySem.Challenge.pw_dw0016_02 w) (A.deeper (lwEnv L fa cd)) (exec (nth ltLoop 3) (lwEnv L fa cd)) Q E { s with heap := h, toks := tk } := by
  dsimp only [Mine.lwEnv]
  conv in (occs := *) (Mine.stScope Mine.lwStmt) => all_goals whnf
  conv in (nth ltLoop 3) => whnf
  k_steps
  show wpAny _ _ _ _ _ _
  refine item_M (i := k) (by assumption) (by walk_at "lm") (by omega) hcv ?_
  k_steps
  show wpAny _ _ (setItem _ _ _) _ _ _
  rename Addr => tup
  have lt : ∀ q ∈ led, q.1 < tup := by assumption
  rename Fr _ _ _ _ => F₂
  rename News _ _ _ _ => N₂
  have hS2 := N₂ _ (.tail _ hS)
  refine wpAny_setItem_pairs (kvs := kvs) (k := n) (strKind_is _ _ n _) (Heap.dictOf_iff.mpr ⟨oS, hS2.1, hSd⟩) (fun h₈ hD₈ hsb => ?_) (by have : sizeLine = 2 ^ 24 := rfl; omega)
  obtain ⟨oS', hoS', hdS'⟩ := Heap.dictOf_iff.mp hD₈
  rw [stored_new hnew] at hdS'
  have F₈ := F₂.change hsb hS2.2.1 hS2.2.2
  obtain ⟨led', N₈, Tu⟩ := put_both N₂ (.tail _ hS) hsb hoS'
  clear F₂ N₂
  k_steps
  rename Fr _ _ _ _ => F₆
  rename News _ _ _ _ => N₆
  exact kk _ _ led' tup _ oS' F₆ N₆ Tu hdS' lt
theorem lt4 (X : (hd2.heap_39 w.params).In h₀) (T : Top p loose mean mg mb h₀) (B : Below A base fr h₀) (hh : A.handled = none) (hroom : A.depth + 1 < recursionLimit) (hu : A.units + 60 < cLine)
    (F : Fr h₀ L h m) (N : News h₀ L h led) (e2 : (L + 2, co2) ∈ led) (d2 : co2.data = .cell (some (.ref CE))) (hC : (CE, W.listOf (List.toArray cvs) cc) ∈ led) (hk6 : k < 1000) (mk : m (Str.ofString "k") = some (.int (k : Int) tkk)) {n : Str} {tn : Tok} (hcv : cvs[k]? = some (.str n tn))
    (e3 : (L + 3, co3) ∈ led) (d3 : co3.data = .cell (some (.ref DU))) {oD : Obj} {kvs : List (Str × Value)} (hS : (DU, oD) ∈ led) (hSd : oD.IsDictOf (strKind PySem.Challenge.pw_dw0016_02 w) kvs) (hkl : kvs.length ≤ 1000) (hnew : n ∉ kvs.map (·.1)) {AD : Addr} (mx : m (Str.ofString "x") = some (.int x tx)) (ma : m (Str.ofString "adds") = some (.ref AD)) {avs : List Value} {as : List Str} {ca : Nat} (hA : (AD, W.listOf (List.toArray avs) ca) ∈ led) (havs : StrsAre avs as) {D : Str → Int} (hD : ∀ a ∈ as, ∃ t, valueAt kvs a = some (.int (D a) t)) (hal : as.length ≤ 2)
    (kk : ∀ h' tk' led' t oD', Fr h₀ L h' m → News h₀ L h' led' → Turned led led' DU oD' → oD'.IsDictOf (strKind PySem.Challenge.pw_dw0016_02 w) (kvs ++ [(n, .int (x.fmod 100 - 50 + (as.map D).sum) t)]) → Q .next { s with heap := h', toks := tk' }) :
    wpAny (model PySem.Challenge.pw_dw0016_02 w) (A.deeper (lwEnv L fa cd)) (exec (nth ltLoop 4) (lwEnv L fa cd)) Q E { s with heap := h, toks := tk } := by
  dsimp only [Mine.lwEnv]
  conv in (occs := *) (Mine.stScope Mine.lwStmt) => all_goals whnf
  conv in (nth ltLoop 4) => whnf
  k_steps
  show wpAny _ _ (eval _ _) _ _ _
  rename Fr _ _ _ _ => F₂
  rename News _ _ _ _ => N₂
  have hal' := havs.1
  refine comp_G (n := as.length) (P := fun i v => ∃ x t, as[i]? = some x ∧ v = Value.str x t) (keep := fun _ => true) (V := fun i r => ∃ t, r = Value.int ((as.map D).getD i 0) t) (G := fun _ _ => False) (cl := [(Str.ofString "due", L + 3)]) (B₀ := topOf L led) (K := fun h => Fr h₀ L h m ∧ News h₀ L h led) frameKept (by with_unfolding_all rfl) (by decide) rfl (by decide) rfl (by omega) ?_ (.inl ⟨rfl, fun _ => rfl⟩) ?_ ?_
  · intro Q' kq
    k_steps
    refine pyIter_walks (vs := avs) hh ⟨_, (N₂ _ hA).1, rfl, _, rfl⟩ (P' := fun i v => ∃ x t, as[i]? = some x ∧ v = Value.str x t) (fun i v hv => ?_) (fun I h₂ tk₂ fp St e1 e2 st hfp hI Wk hIs hS => ?_)
    · have hi : i < as.length := by rw [← hal']; exact (List.getElem?_eq_some_iff.mp hv).1
      obtain ⟨t, e⟩ := havs.2 i as[i] (List.getElem?_eq_getElem hi)
      rw [hv] at e
      exact ⟨as[i], t, List.getElem?_eq_getElem hi, Option.some.inj e⟩
    · rw [hal'] at Wk
      exact kq I h₂ tk₂ fp St (by rw [← e1]; exact topOf_size (by assumption) N₂) e2 ⟨Fr.keeps (by assumption) st, N₂.keeps st⟩ hfp hI Wk hIs hS
  · rintro i v hi ⟨x', t, hx, rfl⟩ _ C s₃ m₃ E' hC' hns hm₃ ⟨F₃, N₃⟩
    obtain ⟨oC, hoC, hNs⟩ := LCg.ns_obj hns
    have hCL : L < C := Nat.lt_of_lt_of_le (topOf_L L _) hC'
    obtain ⟨t', hv'⟩ := hD x' (List.mem_of_getElem? hx)
    refine wpAny_mono (due_elt (s := s₃) (w := w) (fa := fa) (cd := cd) (E := E') (news_cons ⟨hoC, Nat.ne_of_gt hCL, Heap.get?_none_of_le (Nat.le_trans F₃.above (Nat.le_of_lt hCL))⟩ (news_cons (N₃ _ e3) News.nil)) hNs d3 hm₃ ((Heap.dictOf_iff (knd := PySem.strKind PySem.Challenge.pw_dw0016_02 w)).mpr ⟨oD, (N₃ _ hS).1, hSd⟩).mapOf hv') (fun r s₄ hr => ?_) fun _ _ e => e
    obtain ⟨rfl, h', tk', rfl, st⟩ := hr
    exact ⟨h', tk', rfl, st, .inl ⟨t', by rw [List.getD_eq_getElem?_getD, List.getElem?_map, hx]; rfl⟩⟩
  · intro B' h' tk' ys c' hB ⟨F', N'⟩ hg M
    rw [keptTo_all] at M
    have hints : IntsAre ys (as.map D) := ints_of (by simpa using M.1) fun i hi => by
      have hi2 : i < as.length := by simpa using hi
      have hi' : i < ys.length := by rw [M.1]; simpa using hi2
      rcases M.2 i ys[i] i (List.getElem?_eq_getElem hi') (by simp [hi2]) with ⟨t, e⟩ | ⟨_, _, _, _, _, h, _⟩
      · exact ⟨t, by rw [List.getElem?_eq_getElem hi', e]⟩
      · exact h.elim
    clear F₂ N₂
    k_steps
    refine LSm.sum_ints F' N' hh ⟨_, hg, rfl, _, rfl⟩ hints fun h₉ tk₉ t₉ F₉ N₉ => ?_
    clear F' N' hg M
    k_steps
    refine item_M (i := k) (by assumption) hC (by omega) hcv ?_
    k_steps
    show wpAny _ _ (setItem _ _ _) _ _ _
    rename Fr _ _ _ _ => F₄
    rename News _ _ _ _ => N₄
    have hS2 := N₄ _ hS
    refine wpAny_setItem_pairs (kvs := kvs) (k := n) (strKind_is _ _ n _) (Heap.dictOf_iff.mpr ⟨oD, hS2.1, hSd⟩) (fun h₈ hD₈ hsb => ?_) (by have : sizeLine = 2 ^ 24 := rfl; omega)
    obtain ⟨oD', hoD', hdD'⟩ := Heap.dictOf_iff.mp hD₈
    rw [stored_new hnew] at hdD'
    have F₈ := F₄.change hsb hS2.2.1 hS2.2.2
    obtain ⟨led', N₈, Tu⟩ := put_both N₄ hS hsb hoD'
    clear F₄ N₄
    k_steps
    rename Fr _ _ _ _ => F₆
    rename News _ _ _ _ => N₆
    exact kk _ _ led' _ oD' F₆ N₆ Tu hdD'
end
end Mine
end -- W2
section -- W3
open PySem PySem.W PyProof.Rows PySem.Calls PySem.Spec
set_option maxHeartbeats 8000000
namespace Mine
variable {w : World} {base : Heap} {p : Program} {loose : List Str} {mean : ExcName → Option Value} {mg mb : Str → Option Value}
/-! the loop that builds the sheet -/
local macro_rules | `(tactic| walk_at "nm val") => `(tactic| first | assumption | rfl | exact Mine.up_ne (by assumption) (by decide) | exact Mine.up_ne (Mine.up_ne (by assumption) (by decide)) (by decide))
local macro_rules | `(tactic| walk_at "lm") => `(tactic| first | assumption | exact List.Mem.tail _ (by assumption) | exact List.Mem.tail _ (List.Mem.tail _ (by assumption)) | exact List.Mem.tail _ (List.Mem.tail _ (List.Mem.tail _ (by assumption))))
local macro_rules | `(tactic| walk_at "eval Name") => `(tactic| first
  | (name_kind "local"; (rename Fr _ _ _ _ => F'); with_unfolding_all refine Mine.ldC F' (by walk_at "nm val") ?_)
  | (name_kind "cell"; (rename News _ _ _ _ => N'); with_unfolding_all refine Mine.ldCe N' (by rfl) (by walk_at "lm") (by assumption) ?_))
local macro_rules | `(tactic| walk_at "call builtin:len cons nil") => `(tactic| refine Mine.Stop.mk ?_)
local macro_rules | `(tactic| walk_at "pyIter ref") => `(tactic| refine Mine.Stop.mk ?_)
noncomputable def nms (i : Nat) : List Str := (List.range i).map cname
noncomputable def cvB (NU CE DU SU : Addr) : Nat → Option Value := setCv (setCv (setCv (setCv (fun _ => none) 1 (.ref NU)) 2 (.ref CE)) 3 (.ref DU)) 4 (.ref SU)
noncomputable abbrev addTup (al : Addr) (b : Int) (t : Tok) : Obj := ⟨.type "tuple", none, .seq #[.ref al, .int b t] 0, #[]⟩
noncomputable def SumAt (xs : List Int) (own : List (Addr × Obj)) (kv : Str × Value) (k : Nat) : Prop := kv.1 = cname k ∧ ∃ tup al t avs c, kv.2 = Value.ref tup ∧ (tup, addTup al (bvN xs k) t) ∈ own ∧ (al, W.listOf (List.toArray avs) c) ∈ own ∧ StrsAre avs ((idxs xs k).map cname)
structure LwB (w : World) (L SC NU CE DU SU : Addr) (nv svs : List Value) (xs : List Int) (rest : List (Addr × Obj)) (i : Nat) (oS oD : Obj) (cvs : List Value) (cc : Nat) (kvS kvD : List (Str × Value)) (own led : List (Addr × Obj)) : Prop where
  C : LwC L (cvB NU CE DU SU) ((SU, oS) :: (DU, oD) :: (CE, W.listOf (List.toArray cvs) cc) :: (NU, W.listOf (List.toArray nv) 0) :: (SC, W.listOf (List.toArray svs) 0) :: (own ++ rest)) led
  cv : StrsAre cvs (nms i)
  hD : oD.IsDictOf (strKind PySem.Challenge.pw_dw0016_02 w) kvD
  hS : oS.IsDictOf (strKind PySem.Challenge.pw_dw0016_02 w) kvS
  kD : KvRel (dueS xs) kvD (nms i)
  kS : Rel2 (SumAt xs own) kvS (List.range i)
  above : ∀ q ∈ own, SU < q.1
structure LwO (L SC NU CE DU SU : Addr) (nv : List Value) (xs : List Int) (rest : List (Addr × Obj)) : Prop where
  o0 : L + 7 < SC
  o1 : SC < NU
  o2 : NU < CE
  o3 : CE < DU
  o4 : DU < SU
  rl : ∀ q ∈ rest, q.1 < L
  iv : IntsAre nv xs
  len : xs.length ≤ 66
  sD : (DU == sysModules) = false
  sS : (SU == sysModules) = false
section
variable {L SC NU CE DU SU I : Addr} {nv svs cvs : List Value} {xs : List Int} {rest own led led' : List (Addr × Obj)} {i cc : Nat} {oS oD : Obj} {kvS kvD : List (Str × Value)} {cv : Nat → Option Value} {stuff : List (Addr × Obj)}
theorem nms_len (i : Nat) : (nms i).length = i := by simp [nms]
theorem nms_succ (i : Nat) : nms (i + 1) = nms i ++ [cname i] := by simp [nms, List.range_succ]
theorem nms_get {i k : Nat} (h : k < i) : (nms i)[k]? = some (cname k) := by simp [nms, h]
theorem nms_new {i : Nat} (h : i < 66) : cname i ∉ nms i := fun hm => by
  obtain ⟨j, hj, e⟩ := List.mem_map.mp hm
  have hj := List.mem_range.mp hj
  exact absurd (cname_inj (by omega) h e) (by omega)
theorem LwC.drop (S : LwC L cv stuff led) (hc : ∀ j, 1 ≤ j → j ≤ 7 → L + j ≠ I) (hs : ∀ q ∈ stuff, q.1 ≠ I) : LwC L cv stuff (led.filter fun q => decide (q.1 ≠ I)) :=
  ⟨fun j a b => let ⟨co, x, y⟩ := S.cells j a b; ⟨co, List.mem_filter.mpr ⟨x, by simpa using hc j a b⟩, y⟩, fun q hq => List.mem_filter.mpr ⟨S.sub q hq, by simpa using hs q hq⟩, S.off⟩
theorem sums_keys {kvS : List (Str × Value)} {ks : List Nat} (h : Rel2 (SumAt xs own) kvS ks) : kvS.map (·.1) = ks.map cname := by
  induction h with
  | nil => rfl
  | cons p _ ih => simp [p.1, ih]
theorem rel2_mono {α β : Type} {P P' : α → β → Prop} {as : List α} {bs : List β} (h : Rel2 P as bs) (hp : ∀ a b, P a b → P' a b) : Rel2 P' as bs := by
  induction h with
  | nil => exact .nil
  | cons p _ ih => exact .cons (hp _ _ p) ih
theorem stuff_turn {pre post : List (Addr × Obj)} {D : Addr} {o o' : Obj} (h1 : ∀ q ∈ pre, q.1 ≠ D) (h2 : ∀ q ∈ post, q.1 ≠ D) : ∀ q ∈ pre ++ (D, o') :: post, q = (D, o') ∨ (q ∈ pre ++ (D, o) :: post ∧ q.1 ≠ D) := fun q hq => by
  rcases List.mem_append.mp hq with hq | hq
  · exact .inr ⟨List.mem_append_left _ hq, h1 q hq⟩
  · rcases List.mem_cons.mp hq with rfl | hq
    · exact .inl rfl
    · exact .inr ⟨List.mem_append_right _ (.tail _ hq), h2 q hq⟩
theorem tail_ne (O : LwO L SC NU CE DU SU nv xs rest) (ha : ∀ q ∈ own, SU < q.1) : ∀ q ∈ own ++ rest, q.1 ≠ CE ∧ q.1 ≠ DU ∧ q.1 ≠ SU := fun q hq => by
  have h1 := O.o0
  have h2 := O.o1
  have h3 := O.o2
  have h4 := O.o3
  have h5 := O.o4
  rcases List.mem_append.mp hq with hq | hq
  · have := ha q hq
    exact ⟨Nat.ne_of_gt (Nat.lt_trans h4 (Nat.lt_trans h5 this)), Nat.ne_of_gt (Nat.lt_trans h5 this), Nat.ne_of_gt this⟩
  · have := O.rl q hq
    have h6 : q.1 < CE := Nat.lt_trans this (Nat.lt_trans (Nat.lt_of_le_of_lt (Nat.le_add_right L 7) h1) (Nat.lt_trans h2 h3))
    exact ⟨Nat.ne_of_lt h6, Nat.ne_of_lt (Nat.lt_trans h6 h4), Nat.ne_of_lt (Nat.lt_trans (Nat.lt_trans h6 h4) h5)⟩
theorem StrsAre.takes {vs : List Value} {ns : List Str} (h : StrsAre vs ns) (n : Nat) : StrsAre (vs.take n) (ns.take n) := by
  refine ⟨by simp [h.1], fun i x hx => ?_⟩
  rw [List.getElem?_take] at hx ⊢
  split at hx
  · next c => obtain ⟨t, e⟩ := h.2 i x hx; exact ⟨t, by rw [if_pos c]; exact e⟩
  · cases hx
theorem strs_two {a b : Str} {ta tb : Tok} : StrsAre [Value.str a ta, Value.str b tb] [a, b] := (StrsAre.snoc (StrsAre.snoc .nil a ta) b tb)
theorem intsAre_at {vs : List Value} {ns : List Int} (h : IntsAre vs ns) : vs.length = ns.length ∧ ∀ i, i < vs.length → ∃ t, vs[i]? = some (Value.int (ns.getD i 0) t) := by
  induction h with
  | nil => exact ⟨rfl, fun i hi => absurd hi (Nat.not_lt_zero _)⟩
  | cons n t h ih =>
    refine ⟨by simp [ih.1], fun i hi => ?_⟩
    cases i with
    | zero => exact ⟨t, rfl⟩
    | succ i =>
      obtain ⟨t', e⟩ := ih.2 i (by simpa using hi)
      exact ⟨t', by simpa using e⟩
end
section
variable {A : Around} {fr : List Env} {s : Shared} {h : Heap} {L fa : Addr} {cd : Value} {tk : Nat} {m : Str → Option Value} {led : List (Addr × Obj)} {E : Value → Shared → Prop} {Q : Flow → Shared → Prop}
  {SC NU CE DU SU : Addr} {nv svs cvs : List Value} {xs : List Int} {rest own : List (Addr × Obj)} {i cc : Nat} {oS oD : Obj} {kvS kvD : List (Str × Value)}
theorem lt_all (bs : Base1 w base p loose mean mg mb) (B : Below A base fr base) (hh : A.handled = none) (hroom : A.depth + 1 < recursionLimit) (hu : A.units + 60 < cLine) (O : LwO L SC NU CE DU SU nv xs rest)
    (F : Fr base L h m) (N : News base L h led) (hi : i < xs.length) {tk0 : Tok} (mk : m (Str.ofString "k") = some (.int (i : Int) tk0)) (S : LwB w L SC NU CE DU SU nv svs xs rest i oS oD cvs cc kvS kvD own led)
    (kk : ∀ h' tk' m' led' oS' oD' cvs' cc' kvS' kvD' own', Fr base L h' m' → News base L h' led' → LwB w L SC NU CE DU SU nv svs xs rest (i + 1) oS' oD' cvs' cc' kvS' kvD' (own' ++ own) led' → (∀ q ∈ own', ∀ z ∈ led, z.1 < q.1) → (∀ q ∈ led, (∀ j, 1 ≤ j → j ≤ 7 → q.1 ≠ L + j) → q.1 ≠ SU → q.1 ≠ CE → q.1 ≠ DU → q ∈ led') → m' (Str.ofString "script") = m (Str.ofString "script") → Q .next { s with heap := h', toks := tk' }) :
    wpAny (model PySem.Challenge.pw_dw0016_02 w) (A.deeper (lwEnv L fa cd)) (execs (nth ltLoop 0 :: nth ltLoop 1 :: nth ltLoop 2 :: nth ltLoop 3 :: nth ltLoop 4 :: []) (lwEnv L fa cd)) Q E { s with heap := h, toks := tk } := by
  have X := bs.K
  have T := bs.T
  have h66 : i < 66 := Nat.lt_of_lt_of_le hi O.len
  have hlen := O.len
  obtain ⟨hnl, hnv⟩ := intsAre_at O.iv
  obtain ⟨tx, hx⟩ := hnv i (by rw [hnl]; exact hi)
  obtain ⟨co1, e1, d1⟩ := S.C.cells 1 (by decide) (by decide)
  have l4 := O.o4
  have l3 := O.o3
  have l2 := O.o2
  have l7C : L + 7 < CE := Nat.lt_trans (Nat.lt_trans O.o0 O.o1) l2
  have l7D := Nat.lt_trans l7C l3
  have l7S := Nat.lt_trans l7D l4
  have tn := tail_ne O S.above
  have hcl : cvs.length = i := by rw [S.cv.1, nms_len]
  have lNC : ∀ q ∈ [(NU, W.listOf (List.toArray nv) 0), (SC, W.listOf (List.toArray svs) 0)], q.1 < CE := List.forall_mem_cons.mpr ⟨l2, List.forall_mem_cons.mpr ⟨Nat.lt_trans O.o1 l2, fun _ h => nomatch h⟩⟩
  have post : ∀ D, CE ≤ D → (∀ q ∈ own ++ rest, q.1 ≠ D) → ∀ q ∈ (NU, W.listOf (List.toArray nv) 0) :: (SC, W.listOf (List.toArray svs) 0) :: (own ++ rest), q.1 ≠ D := fun D hD ht => List.forall_mem_cons.mpr ⟨Nat.ne_of_lt (Nat.lt_of_lt_of_le l2 hD), List.forall_mem_cons.mpr ⟨Nat.ne_of_lt (Nat.lt_of_lt_of_le (Nat.lt_trans O.o1 l2) hD), ht⟩⟩
  refine stop_cons ?_
  refine lt0 (s := s) (x := xs.getD i 0) X T B hh hroom hu F N e1 d1 (S.C.sub _ (.tail _ (.tail _ (.tail _ (.head _))))) hx (by omega) mk fun h₁ tk₁ led₁ tq F₁ N₁ sub₁ => ?_
  have C₁ := S.C.at N₁ sub₁
  have go : ∀ h₂ tk₂ led₂ V c' avs, Fr base L h₂ (fun y => if y = Str.ofString "adds" then some (.ref V) else if y = Str.ofString "x" then some (.int (xs.getD i 0) tx) else if y = Str.ofString "q" then some (.int ((xs.getD i 0).fdiv 3) tq) else m y) → News base L h₂ ((V, W.listOf (List.toArray avs) c') :: led₂) → (∀ q ∈ led₁, q ∈ led₂) → (∀ q ∈ led₁, q.1 < V) → StrsAre avs ((idxs xs i).map cname) →
      wpAny (model PySem.Challenge.pw_dw0016_02 w) (A.deeper (lwEnv L fa cd)) (execs (nth ltLoop 2 :: nth ltLoop 3 :: nth ltLoop 4 :: []) (lwEnv L fa cd)) Q E { s with heap := h₂, toks := tk₂ } := by
    intro h₂ tk₂ led₂ V c' avs F₂ N₂ sub₂ ltV havs
    have lSV : SU < V := ltV _ (C₁.sub _ (.head _))
    have C₂ := (C₁.at N₂ fun q hq => .tail _ (sub₂ q hq)).add (.head _) (Nat.lt_trans l7S lSV)
    obtain ⟨co2, e2, d2⟩ := C₂.cells 2 (by decide) (by decide)
    have mk₂ : (fun y => if y = Str.ofString "adds" then some (Value.ref V) else if y = Str.ofString "x" then some (.int (xs.getD i 0) tx) else if y = Str.ofString "q" then some (.int ((xs.getD i 0).fdiv 3) tq) else m y) (Str.ofString "k") = some (.int (i : Int) tk0) := mk
    refine stop_cons ?_
    refine lt2 (s := s) X T B hh hroom hu F₂ N₂ e2 d2 (C₂.sub _ (.tail _ (.tail _ (.tail _ (.head _))))) (by omega) (by omega) mk₂ fun h₃ tk₃ led₃ tc F₃ N₃ Tu₃ => ?_
    have C₃ := C₂.turn Tu₃ l7C (stuff_turn (pre := [(V, W.listOf (List.toArray avs) c'), (SU, oS), (DU, oD)]) (List.forall_mem_cons.mpr ⟨Nat.ne_of_gt (Nat.lt_trans l3 (Nat.lt_trans l4 lSV)), List.forall_mem_cons.mpr ⟨Nat.ne_of_gt (Nat.lt_trans l3 l4), List.forall_mem_cons.mpr ⟨Nat.ne_of_gt l3, fun _ h => nomatch h⟩⟩⟩) (post CE (Nat.le_refl _) fun q hq => (tn q hq).1))
    clear e2 d2
    have hcv : (cvs ++ [Value.str (cname i) tc])[i]? = some (Value.str (cname i) tc) := by rw [List.getElem?_append_right (by omega), hcl, Nat.sub_self]; rfl
    have kSl : kvS.length = i := by have := S.kS.length; simpa using this
    have kDl : kvD.length = i := by have := S.kD.length; rw [nms_len] at this; exact this
    have kSn : cname i ∉ kvS.map (·.1) := by rw [sums_keys S.kS]; exact nms_new h66
    have kDn : cname i ∉ kvD.map (·.1) := by rw [S.kD.keys]; exact nms_new h66
    obtain ⟨co2, e2, d2⟩ := C₃.cells 2 (by decide) (by decide)
    obtain ⟨co4, e4, d4⟩ := C₃.cells 4 (by decide) (by decide)
    show wpAny _ _ (execs (nth ltLoop 3 :: nth ltLoop 4 :: []) _) _ _ _
    refine stop_cons ?_
    refine lt3 (s := s) (x := xs.getD i 0) X T B hh hroom hu F₃ N₃ e2 d2 (C₃.sub _ (.tail _ (.tail _ (.tail _ (.head _))))) (by omega) mk₂ hcv e4 d4 (C₃.sub _ (.tail _ (.head _))) S.hS (by omega) kSn rfl rfl fun h₄ tk₄ led₄ tup t₄ oS' F₄ N₄ Tu₄ hS' lt₄ => ?_
    have lSt : SU < tup := lt₄ _ (C₃.sub _ (.tail _ (.head _)))
    have C₄ := (((C₃.push (led' := (tup, addTup V ((xs.getD i 0).fmod 100 - 50) t₄) :: led₃) fun q hq => .tail _ hq).add (.head _) (Nat.lt_trans l7S lSt)).turn Tu₄ l7S (stuff_turn (pre := [(tup, addTup V ((xs.getD i 0).fmod 100 - 50) t₄), (V, W.listOf (List.toArray avs) c')]) (List.forall_mem_cons.mpr ⟨Nat.ne_of_gt lSt, List.forall_mem_cons.mpr ⟨Nat.ne_of_gt lSV, fun _ h => nomatch h⟩⟩)
      (List.forall_mem_cons.mpr ⟨Nat.ne_of_lt l4, List.forall_mem_cons.mpr ⟨Nat.ne_of_lt (Nat.lt_trans l3 l4), post SU (Nat.le_of_lt (Nat.lt_trans l3 l4)) fun q hq => (tn q hq).2.2⟩⟩)))
    clear e2 d2 e4 d4
    obtain ⟨co2, e2, d2⟩ := C₄.cells 2 (by decide) (by decide)
    obtain ⟨co3, e3, d3⟩ := C₄.cells 3 (by decide) (by decide)
    have hidx : ∀ j ∈ idxs xs i, j < i := fun j hj => idxs_lt hj
    show wpAny _ _ (execs (nth ltLoop 4 :: []) _) _ _ _
    refine stop_cons ?_
    refine lt4 (s := s) (x := xs.getD i 0) (D := dueS xs) X T B hh hroom hu F₄ N₄ e2 d2 (C₄.sub _ (.tail _ (.tail _ (.tail _ (.tail _ (.head _)))))) (by omega) mk₂ hcv e3 d3 (C₄.sub _ (.tail _ (.tail _ (.tail _ (.head _))))) S.hD (by omega) kDn rfl rfl (C₄.sub _ (.tail _ (.head _))) havs (fun a ha => ?_) (by rw [List.length_map]; exact idxs_len xs i) fun h₅ tk₅ led₅ t₅ oD' F₅ N₅ Tu₅ hD' => ?_
    · obtain ⟨j, hj, rfl⟩ := List.mem_map.mp ha
      exact (S.kD.at (cname j)).1 (List.mem_map.mpr ⟨j, List.mem_range.mpr (hidx j hj), rfl⟩)
    have C₅ := C₄.turn Tu₅ l7D (stuff_turn (pre := [(tup, addTup V ((xs.getD i 0).fmod 100 - 50) t₄), (V, W.listOf (List.toArray avs) c'), (SU, oS')]) (List.forall_mem_cons.mpr ⟨Nat.ne_of_gt (Nat.lt_trans l4 lSt), List.forall_mem_cons.mpr ⟨Nat.ne_of_gt (Nat.lt_trans l4 lSV), List.forall_mem_cons.mpr ⟨Nat.ne_of_gt l4, fun _ h => nomatch h⟩⟩⟩)
      (List.forall_mem_cons.mpr ⟨Nat.ne_of_lt l3, post DU (Nat.le_of_lt l3) fun q hq => (tn q hq).2.1⟩))
    show wpAny _ _ (execs [] _) _ _ _
    refine wpAny_execs_nil ?_
    have hbv : (xs.getD i 0).fmod 100 - 50 = bvN xs i := rfl
    have hdue : (xs.getD i 0).fmod 100 - 50 + (((idxs xs i).map cname).map (dueS xs)).sum = dueS xs (cname i) := by
      rw [dueS_cname h66, Dn_eq, hbv, List.map_map]
      congr 2
      exact List.map_congr_left fun j hj => dueS_cname (by have := hidx j hj; omega)
    rw [hdue] at hD'
    rw [hbv] at C₅
    refine kk h₅ tk₅ _ led₅ oS' oD' (cvs ++ [Value.str (cname i) tc]) (cc + 1) (kvS ++ [(cname i, .ref tup)]) (kvD ++ [(cname i, .int (dueS xs (cname i)) t₅)]) [(tup, addTup V (bvN xs i) t₄), (V, W.listOf (List.toArray avs) c')] F₅ N₅ ⟨C₅.less fun q hq => ?_, by rw [nms_succ]; exact S.cv.snoc (cname i) tc, hD', hS', by rw [nms_succ]; exact S.kD.snoc ⟨rfl, t₅, rfl⟩, ?_, ?_⟩ ?_ ?_ rfl
    · simp only [List.mem_cons, List.mem_append, List.not_mem_nil, or_false] at hq ⊢
      rcases hq with h | h | h | h | h | ((h | h) | h) | h <;> simp [h]
    · rw [List.range_succ]
      refine (rel2_mono S.kS fun kv k' ⟨a, tp, al, t, av, c, b1, b2, b3, b4⟩ => ⟨a, tp, al, t, av, c, b1, .tail _ (.tail _ b2), .tail _ (.tail _ b3), b4⟩).snoc ⟨rfl, tup, V, t₄, avs, c', rfl, .head _, .tail _ (.head _), havs⟩
    · exact List.forall_mem_cons.mpr ⟨lSt, List.forall_mem_cons.mpr ⟨lSV, S.above⟩⟩
    · have u1 : ∀ z ∈ led, z.1 < V := fun z hz => ltV z (sub₁ z hz)
      refine List.forall_mem_cons.mpr ⟨fun z hz => ?_, List.forall_mem_cons.mpr ⟨u1, fun _ h => nomatch h⟩⟩
      exact Nat.lt_trans (u1 z hz) (lt₄ _ (C₃.sub _ (.head _)))
    · intro q hq _ n1 n2 n3
      exact Tu₅.old q (Tu₄.old q (.tail _ (Tu₃.old q (.tail _ (sub₂ q (sub₁ q hq))) n2)) n1) n3
  have mk₁ : (fun y => if y = Str.ofString "x" then some (Value.int (xs.getD i 0) tx) else if y = Str.ofString "q" then some (.int ((xs.getD i 0).fdiv 3) tq) else m y) (Str.ofString "k") = some (.int (i : Int) tk0) := mk
  obtain ⟨co2, e2, d2⟩ := C₁.cells 2 (by decide) (by decide)
  show wpAny _ _ (execs (nth ltLoop 1 :: nth ltLoop 2 :: nth ltLoop 3 :: nth ltLoop 4 :: []) _) _ _ _
  refine stop_cons ?_
  rcases Nat.eq_zero_or_pos i with hz | hp
  · have mz : (fun y => if y = Str.ofString "x" then some (Value.int (xs.getD i 0) tx) else if y = Str.ofString "q" then some (.int ((xs.getD i 0).fdiv 3) tq) else m y) (Str.ofString "k") = some (.int 0 tk0) := by rw [mk₁, hz]; rfl
    refine lt1z (s := s) X T B hh hroom hu F₁ N₁ mz fun h₂ tk₂ V F₂ N₂ ltV => ?_
    exact go h₂ tk₂ led₁ V 0 [] F₂ N₂ (fun q hq => hq) ltV (by rw [idxs, if_pos hz]; exact .nil)
  · have f1 := fmod_nat ((xs.getD i 0).fdiv 3) hp
    have f2 := fmod_nat (((xs.getD i 0).fdiv 3).fdiv i) hp
    obtain ⟨t1, g1⟩ := S.cv.2 _ _ (nms_get (i := i) (k := (((xs.getD i 0).fdiv 3).fmod i).toNat) (by omega))
    obtain ⟨t2, g2⟩ := S.cv.2 _ _ (nms_get (i := i) (k := ((((xs.getD i 0).fdiv 3).fdiv i).fmod i).toNat) (by omega))
    refine lt1 (s := s) (k := i) X T B hh hroom hu F₁ N₁ e2 d2 (C₁.sub _ (.tail _ (.tail _ (.head _)))) hcl (by omega) hp mk₁ rfl rfl g1 g2 fun h₂ tk₂ led₂ V c' F₂ N₂ sub₂ ltV => ?_
    refine go h₂ tk₂ led₂ V c' _ F₂ N₂ sub₂ ltV ?_
    rw [idxs, if_neg (by omega), List.map_take]
    exact strs_two.takes _
noncomputable def LwJ (w : World) (L SC NU CE DU SU : Addr) (nv svs : List Value) (xs : List Int) (rest : List (Addr × Obj)) (i : Nat) (m : Str → Option Value) (led : List (Addr × Obj)) : Prop :=
  m (Str.ofString "script") = some (.ref SC) ∧ ∃ oS oD cvs cc kvS kvD own, LwB w L SC NU CE DU SU nv svs xs rest i oS oD cvs cc kvS kvD own led
theorem LwB.at {led' : List (Addr × Obj)} (S : LwB w L SC NU CE DU SU nv svs xs rest i oS oD cvs cc kvS kvD own led) (N : News base L h led') (hs : ∀ q ∈ led, q ∈ led') : LwB w L SC NU CE DU SU nv svs xs rest i oS oD cvs cc kvS kvD own led' := ⟨S.C.push hs, S.cv, S.hD, S.hS, S.kD, S.kS, S.above⟩
theorem lw_for (bs : Base1 w base p loose mean mg mb) (B : Below A base fr base) (hh : A.handled = none) (hroom : A.depth + 1 < recursionLimit) (hu : A.units + 60 < cLine) (hE : PassesOwn (model PySem.Challenge.pw_dw0016_02 w) (A.deeper (lwEnv L fa cd)) (lwEnv L fa cd) E) (O : LwO L SC NU CE DU SU nv xs rest)
    (F : Fr base L h m) (N : News base L h led) (J : LwJ w L SC NU CE DU SU nv svs xs rest 0 m led)
    (done : ∀ m₁ led₁ h' tk', LwJ w L SC NU CE DU SU nv svs xs rest xs.length m₁ led₁ → Fr base L h' m₁ → News base L h' led₁ → Q .next { s with heap := h', toks := tk' }) :
    wpAny (model PySem.Challenge.pw_dw0016_02 w) (A.deeper (lwEnv L fa cd)) (exec (nth lwBody 3) (lwEnv L fa cd)) Q E { s with heap := h, toks := tk } := by
  have X := bs.K
  have T := bs.T
  have hlen := O.len
  obtain ⟨hnl, hnv⟩ := intsAre_at O.iv
  obtain ⟨ms, oS, oD, cvs, cc, kvS, kvD, own, S⟩ := id J
  obtain ⟨co1, e1, d1⟩ := S.C.cells 1 (by decide) (by decide)
  have hNU := S.C.sub (NU, W.listOf (List.toArray nv) 0) (.tail _ (.tail _ (.tail _ (.head _))))
  dsimp only [Mine.lwEnv] at hE ⊢
  conv in (occs := *) (Mine.stScope Mine.lwStmt) => all_goals whnf
  conv in (nth lwBody 3) => whnf
  refine For_invV base rfl rfl ?_
  k_steps
  refine len_M (j := xs.length) (by assumption) hNU (by omega) hnl ?_
  k_steps
  show wpAny _ _ (pyIter _) _ _ _
  rename Fr _ _ _ _ => F₂
  rename News _ _ _ _ => N₂
  rename IsRange _ _ _ _ _ _ _ _ => hr
  refine range_loop (LwJ w L SC NU CE DU SU nv svs xs rest) hh hr (by omega) F₂ N₂ ⟨ms, oS, oD, cvs, cc, kvS, kvD, own, S.at N₂ (by first | exact fun q hq => hq | exact fun q hq => List.Mem.tail _ hq)⟩ ?_ ?_
  · intro i t m₁ nw h tk I io hi J hne F₁ N₁
    obtain ⟨ms, oS, oD, cvs, cc, kvS, kvD, own, S⟩ := J
    have hst : ∀ q : Addr × Obj, q ∈ (SU, oS) :: (DU, oD) :: (CE, W.listOf (List.toArray cvs) cc) :: (NU, W.listOf (List.toArray nv) 0) :: (SC, W.listOf (List.toArray svs) 0) :: (own ++ rest) → q.1 ≠ I := fun q hq => hne q (S.C.sub q hq)
    have hcI : ∀ j, 1 ≤ j → j ≤ 7 → L + j ≠ I := fun j a b => let ⟨co, x, _⟩ := S.C.cells j a b; hne _ x
    show wpAny _ _ (execs (nth ltLoop 0 :: nth ltLoop 1 :: nth ltLoop 2 :: nth ltLoop 3 :: nth ltLoop 4 :: []) (lwEnv L fa cd)) _ _ _
    refine lt_all (s := s) bs B hh hroom hu O F₁ N₁ hi (if_pos rfl) (S.at N₁ fun q hq => .tail _ hq) fun h' tk' m' led' oS' oD' cvs' cc' kvS' kvD' own' F' N' S' hown hold hsc => ?_
    refine ⟨h', tk', m', led'.filter fun q => decide (q.1 ≠ I), rfl, F', news_cons (N' _ (hold (I, io) (.head _) (fun j a b e => hcI j a b e.symm) (Ne.symm (hst _ (.head _))) (Ne.symm (hst _ (.tail _ (.tail _ (.head _))))) (Ne.symm (hst _ (.tail _ (.head _)))))) (news_sub N' fun z hz => (List.mem_filter.mp hz).1), fun q hq => by simpa using (List.mem_filter.mp hq).2, by rw [hsc]; exact ms, oS', oD', cvs', cc', kvS', kvD', own' ++ own, ⟨S'.C.drop hcI fun q hq => ?_, S'.cv, S'.hD, S'.hS, S'.kD, S'.kS, S'.above⟩⟩
    simp only [List.mem_cons, List.mem_append] at hq
    rcases hq with h | h | h | h | h | (h | h) | h
    · rw [h]; exact hst (SU, oS) (.head _)
    · rw [h]; exact hst (DU, oD) (.tail _ (.head _))
    · rw [h]; exact hst (CE, W.listOf (List.toArray cvs) cc) (.tail _ (.tail _ (.head _)))
    · rw [h]; exact hst _ (.tail _ (.tail _ (.tail _ (.head _))))
    · rw [h]; exact hst _ (.tail _ (.tail _ (.tail _ (.tail _ (.head _)))))
    · exact Nat.ne_of_gt (hown q h (I, io) (.head _))
    · exact hst _ (.tail _ (.tail _ (.tail _ (.tail _ (.tail _ (List.mem_append_left _ h))))))
    · exact hst _ (.tail _ (.tail _ (.tail _ (.tail _ (.tail _ (List.mem_append_right _ h))))))
  · intro m₁ nw₁ h' tk' J F' N'
    exact done m₁ nw₁ h' tk' J F' N'
end
end Mine
end -- W3
section -- W4
open PySem PySem.W PyProof.Rows PySem.Calls PySem.Spec
set_option maxHeartbeats 8000000
namespace Mine
variable {w : World} {base : Heap} {p : Program} {loose : List Str} {mean : ExcName → Option Value} {mg mb : Str → Option Value}
/-! law's row, its arguments, its stars -/
local macro_rules | `(tactic| walk_at "nm val") => `(tactic| first | assumption | rfl | exact Mine.up_ne (by assumption) (by decide) | exact Mine.up_ne (Mine.up_ne (by assumption) (by decide)) (by decide))
local macro_rules | `(tactic| walk_at "lm") => `(tactic| first | assumption | exact List.Mem.tail _ (by assumption) | exact List.Mem.tail _ (List.Mem.tail _ (by assumption)) | exact List.Mem.tail _ (List.Mem.tail _ (List.Mem.tail _ (by assumption))))
local macro_rules | `(tactic| walk_at "eval Name") => `(tactic| first
  | (name_kind "local"; (rename Fr _ _ _ _ => F'); with_unfolding_all refine Mine.ldC F' (by walk_at "nm val") ?_)
  | (name_kind "cell"; (rename News _ _ _ _ => N'); with_unfolding_all refine Mine.ldCe N' (by rfl) (by walk_at "lm") (by assumption) ?_))
local macro_rules | `(tactic| walk_at "storeName") => `(tactic| with_unfolding_all refine Mine.stopCell (by rfl) ?_)
local macro_rules | `(tactic| walk_at "subscriptTail Name Slice ref ref") => `(tactic| refine Mine.Stop.mk ?_)
local macro_rules | `(tactic| walk_at "subscriptTail Subscript Name Slice Slice ref ref") => `(tactic| refine Mine.Stop.mk ?_)
local macro_rules | `(tactic| walk_at "binaryOp Add ref ref") => `(tactic| refine Mine.Stop.mk ?_)
local macro_rules | `(tactic| walk_at "binaryOp Mult ref int") => `(tactic| refine Mine.Stop.mk ?_)
local macro_rules | `(tactic| walk_at "call type:list cons nil") => `(tactic| refine Mine.Stop.mk ?_)
local macro_rules | `(tactic| walk_at "call builtin:len cons nil") => `(tactic| refine Mine.Stop.mk ?_)
local macro_rules | `(tactic| walk_at "call builtin:list.pop cons nil") => `(tactic| refine Mine.Stop.mk ?_)
local macro_rules | `(tactic| walk_at "getMethod ref") => `(tactic| refine Mine.Stop.mk ?_)
local macro_rules | `(tactic| walk_at "unpackItems ref") => `(tactic| (k_here; (refine unpackItemsN_ (by k_asm) (by k_asm) (by kun_tup) (by assumption) (by rfl) ?_); intro h' F' N'; (try k_sweep)))
noncomputable def pickS {α : Type} (ns : List α) (lo hi st : Option Int) : List α := (sliceRange (sliceBounds lo hi st ns.length).1 (sliceBounds lo hi st ns.length).2.1 (sliceBounds lo hi st ns.length).2.2).filterMap (ns[·]?)
theorem pick_eq (vs : List Value) (lo hi st : Option Int) : (slicePick vs.toArray lo hi st).toList = pickS vs lo hi st := by
  unfold slicePick pickS
  simp
theorem strs_pickI {vs : List Value} {ns : List Str} (h : StrsAre vs ns) : ∀ idx : List Nat, StrsAre (idx.filterMap (vs[·]?)) (idx.filterMap (ns[·]?))
  | [] => .nil
  | j :: r => by
    have ih := strs_pickI h r
    cases q : ns[j]? with
    | none =>
      have q' : vs[j]? = none := by
        rw [List.getElem?_eq_none_iff] at q ⊢
        rw [h.1]; exact q
      rw [List.filterMap_cons_none q, List.filterMap_cons_none q']
      exact ih
    | some x =>
      obtain ⟨t, e⟩ := h.2 j x q
      rw [List.filterMap_cons_some q, List.filterMap_cons_some e]
      refine ⟨by simp [ih.1], fun i y hy => ?_⟩
      cases i with
      | zero => simp at hy; subst hy; exact ⟨t, rfl⟩
      | succ i => obtain ⟨t', e'⟩ := ih.2 i y (by simpa using hy); exact ⟨t', by simpa using e'⟩
theorem strs_pick {vs : List Value} {ns : List Str} (h : StrsAre vs ns) (lo hi st : Option Int) : StrsAre (pickS vs lo hi st) (pickS ns lo hi st) := by
  unfold pickS
  rw [h.1]
  exact strs_pickI h _
theorem StrsAre.rev {vs : List Value} {ns : List Str} (h : StrsAre vs ns) : StrsAre vs.reverse ns.reverse := by
  refine ⟨by simp [h.1], fun i x hx => ?_⟩
  have hi : i < ns.length := by simpa using (List.getElem?_eq_some_iff.mp hx).1
  rw [List.getElem?_reverse hi] at hx
  rw [List.getElem?_reverse (by rw [h.1]; exact hi), h.1]
  exact h.2 _ x hx
theorem StrsAre.app {vs us : List Value} {ns ms : List Str} (h : StrsAre vs ns) (g : StrsAre us ms) : StrsAre (vs ++ us) (ns ++ ms) := by
  refine ⟨by simp [h.1, g.1], fun i x hx => ?_⟩
  by_cases hi : i < ns.length
  · rw [List.getElem?_append_left hi] at hx
    rw [List.getElem?_append_left (by rw [h.1]; exact hi)]
    exact h.2 i x hx
  · rw [List.getElem?_append_right (Nat.le_of_not_lt hi)] at hx
    rw [List.getElem?_append_right (by rw [h.1]; exact Nat.le_of_not_lt hi), h.1]
    exact g.2 _ x hx
noncomputable def rowN (n : Nat) : List Str := (pickS (nms n) (some 1) none (some 2)).reverse ++ pickS (nms n) none none (some 2)
theorem rowN_mem {n : Nat} {y : Str} (h : y ∈ rowN n) : ∃ j, j < n ∧ y = cname j := by
  have m : ∀ lo hi st, ∀ y ∈ pickS (nms n) lo hi st, ∃ j, j < n ∧ y = cname j := fun lo hi st y hy => by
    obtain ⟨i, _, e⟩ := List.mem_filterMap.mp hy
    obtain ⟨j, hj, e⟩ := List.mem_map.mp (List.mem_of_getElem? e)
    exact ⟨j, List.mem_range.mp hj, e.symm⟩
  rcases List.mem_append.mp h with h | h
  · exact m _ _ _ y (List.mem_reverse.mp h)
  · exact m _ _ _ y h
noncomputable def rowLen (n : Nat) : Nat := (pickS (List.range n) (some 1) none (some 2)).length + (pickS (List.range n) none none (some 2)).length
theorem filterMap_len {α β : Type} {l : List α} {l' : List β} (h : l.length = l'.length) : ∀ idx : List Nat, (idx.filterMap (l[·]?)).length = (idx.filterMap (l'[·]?)).length
  | [] => rfl
  | j :: r => by
    have ih := filterMap_len h r
    by_cases hj : j < l.length
    · rw [List.filterMap_cons_some (List.getElem?_eq_getElem hj), List.filterMap_cons_some (List.getElem?_eq_getElem (h ▸ hj)), List.length_cons, List.length_cons, ih]
    · rw [List.filterMap_cons_none (List.getElem?_eq_none (Nat.le_of_not_lt hj)), List.filterMap_cons_none (List.getElem?_eq_none (h ▸ Nat.le_of_not_lt hj)), ih]
theorem rowN_len {n : Nat} (h : n < 67) : (rowN n).length = n := by
  have e : ∀ lo hi st, (pickS (nms n) lo hi st).length = (pickS (List.range n) lo hi st).length := fun lo hi st => by
    unfold pickS
    rw [nms_len, List.length_range]
    exact filterMap_len (by rw [nms_len, List.length_range]) _
  have all : ((List.range 67).all fun n => decide (rowLen n = n)) = true := by decide +kernel
  have := List.all_eq_true.mp all n (List.mem_range.mpr h)
  unfold rowN
  rw [List.length_append, List.length_reverse, e, e]
  exact of_decide_eq_true this
section
variable {A : Around} {fr : List Env} {s : Shared} {h₀ h : Heap} {L fa : Addr} {cd : Value} {tk : Nat} {m : Str → Option Value} {led : List (Addr × Obj)} {E : Value → Shared → Prop} {Q : Flow → Shared → Prop}
  {CE RO SC AR : Addr} {co2 co5 co6 : Obj} {v5 v6 : Option Value} {cvs svs rvs : List Value} {c cc : Nat} {n : Nat} {tw : Tok}
theorem lw4 (X : (hd2.heap_39 w.params).In h₀) (T : Top p loose mean mg mb h₀) (B : Below A base fr h₀) (hh : A.handled = none) (hroom : A.depth + 1 < recursionLimit) (hu : A.units + 60 < cLine)
    (F : Fr h₀ L h m) (N : News h₀ L h led) (e2 : (L + 2, co2) ∈ led) (d2 : co2.data = .cell (some (.ref CE))) (hC : (CE, W.listOf (List.toArray cvs) cc) ∈ led) (hcv : StrsAre cvs (nms n)) (hn : n < 67) (e5 : (L + 5, co5) ∈ led) (d5 : co5.data = .cell v5)
    (kk : ∀ h' tk' led₁ led' RO rvs co', Fr h₀ L h' m → News h₀ L h' led' → (∀ q ∈ led, q ∈ led₁) → Turned ((RO, W.listOf (List.toArray rvs) 0) :: led₁) led' (L + 5) co' → co'.data = .cell (some (.ref RO)) → (∀ q ∈ led, q.1 < RO) → StrsAre rvs (rowN n) → Q .next { s with heap := h', toks := tk' }) :
    wpAny (model PySem.Challenge.pw_dw0016_02 w) (A.deeper (lwEnv L fa cd)) (exec (nth lwBody 4) (lwEnv L fa cd)) Q E { s with heap := h, toks := tk } := by
  dsimp only [Mine.lwEnv]
  conv in (occs := *) (Mine.stScope Mine.lwStmt) => all_goals whnf
  conv in (nth lwBody 4) => whnf
  have hcl := hcv.1
  rw [nms_len] at hcl
  k_steps
  rename Fr _ _ _ _ => F₂
  rename News _ _ _ _ => N₂
  refine kmk_slice3_lit (zs := pickS cvs (some 1) none (some 2)) F₂ N₂ ⟨_, (N₂ _ hC).1, rfl, _, rfl⟩ (.int _ _) .none (.int _ _) (by decide) (pick_eq _ _ _ _) (fun D h' F' N' l1 => ?_) (by with_unfolding_all rfl) (by intro _; with_unfolding_all rfl) (by rw [List.size_toArray]; have : sizeLine = 2 ^ 24 := rfl; omega)
  have sz : (pickS cvs (some 1) none (some 2)).length ≤ 66 ∧ (pickS cvs none none (some 2)).length ≤ 66 := by
    have a := (strs_pick hcv (some 1) none (some 2)).1
    have b := (strs_pick hcv none none (some 2)).1
    have c := rowN_len hn
    unfold rowN at c
    rw [List.length_append, List.length_reverse] at c
    omega
  clear F₂ N₂
  k_steps
  rename Fr _ _ _ _ => F₂
  rename News _ _ _ _ => N₂
  refine kba_turn (value' := .Name Str.empty ⟨0, 0, 0, 0⟩) (by intro _; with_unfolding_all rfl) ?_
  refine krv_lit (zs := (pickS cvs (some 1) none (some 2)).reverse) F₂ N₂ ⟨_, (N₂ _ (.head _)).1, rfl, _, rfl⟩ (.int _ _) rfl (fun D₂ h' F' N' l2 => ?_) (by with_unfolding_all rfl) (by intro _; with_unfolding_all rfl) (by rw [List.size_toArray]; have : sizeLine = 2 ^ 24 := rfl; omega)
  clear F₂ N₂
  k_steps
  rename Fr _ _ _ _ => F₂
  rename News _ _ _ _ => N₂
  refine kmk_slice3_lit (zs := pickS cvs none none (some 2)) F₂ N₂ ⟨_, (N₂ _ (.tail _ (.tail _ hC))).1, rfl, _, rfl⟩ .none .none (.int _ _) (by decide) (pick_eq _ _ _ _) (fun D₃ h' F' N' l3 => ?_) (by with_unfolding_all rfl) (by intro _; with_unfolding_all rfl) (by rw [List.size_toArray]; have : sizeLine = 2 ^ 24 := rfl; omega)
  clear F₂ N₂
  k_steps
  rename Fr _ _ _ _ => F₂
  rename News _ _ _ _ => N₂
  refine kmk_add_lit (zs := (pickS cvs (some 1) none (some 2)).reverse ++ pickS cvs none none (some 2)) F₂ N₂ ⟨_, (N₂ _ (.tail _ (.head _))).1, rfl, _, rfl⟩ ⟨_, (N₂ _ (.head _)).1, rfl, _, rfl⟩ rfl (fun RO h' F' N' l4 => ?_) (by simp; have : sizeLine = 2 ^ 24 := rfl; omega)
  clear F₂ N₂
  k_steps
  rename Fr _ _ _ _ => F₂
  rename News _ _ _ _ => N₂
  refine stCe F₂ N₂ rfl (.tail _ (.tail _ (.tail _ (.tail _ e5)))) d5 fun h₅ co' led' F₅ N₅ Tu hd => ?_
  clear F₂ N₂
  k_steps
  rename Fr _ _ _ _ => F₆
  rename News _ _ _ _ => N₆
  exact kk _ _ _ led' RO _ co' F₆ N₆ (fun q hq => .tail _ (.tail _ (.tail _ hq))) Tu hd (fun q hq => l4 q (.tail _ (.tail _ (.tail _ hq)))) ((strs_pick hcv _ _ _).rev.app (strs_pick hcv _ _ _))
theorem lw5 (X : (hd2.heap_39 w.params).In h₀) (T : Top p loose mean mg mb h₀) (B : Below A base fr h₀) (hh : A.handled = none) (hroom : A.depth + 1 < recursionLimit) (hu : A.units + 60 < cLine)
    (F : Fr h₀ L h m) (N : News h₀ L h led) (e5 : (L + 5, co5) ∈ led) (d5 : co5.data = .cell (some (.ref RO))) (hR : (RO, W.listOf (List.toArray rvs) c) ∈ led) (hrl : rvs.length ≤ 1000) (ms : m (Str.ofString "script") = some (.ref SC)) (hSC : (SC, W.listOf (List.toArray svs) cc) ∈ led) (hsl : svs.length ≤ 1000)
    (kk : ∀ h' tk' led' AR c' t, Fr h₀ L h' (fun y => if y = Str.ofString "args" then some (.ref AR) else if y = Str.ofString "way" then some (.int ((svs.length : Int).fmod 4) t) else m y) → News h₀ L h' led' → (∀ q ∈ led, q ∈ led') → (AR, W.listOf (List.toArray rvs) c') ∈ led' → (∀ q ∈ led, q.1 < AR) → Q .next { s with heap := h', toks := tk' }) :
    wpAny (model PySem.Challenge.pw_dw0016_02 w) (A.deeper (lwEnv L fa cd)) (exec (nth lwBody 5) (lwEnv L fa cd)) Q E { s with heap := h, toks := tk } := by
  dsimp only [Mine.lwEnv]
  conv in (occs := *) (Mine.stScope Mine.lwStmt) => all_goals whnf
  conv in (nth lwBody 5) => whnf
  k_steps
  rename Fr _ _ _ _ => F₂
  rename News _ _ _ _ => N₂
  refine list_copyK F₂ N₂ ⟨_, (N₂ _ hR).1, rfl, _, rfl⟩ (fun AR c' h' F' N' lt => ?_) (by rw [List.size_toArray]; have : sizeLine = 2 ^ 24 := rfl; omega)
  clear F₂ N₂
  k_steps
  refine len_M (j := svs.length) (by assumption) (.tail _ hSC) (by omega) rfl ?_
  k_steps
  rename Fr _ _ _ _ => F₆
  rename News _ _ _ _ => N₆
  exact kk _ _ _ AR c' _ F₆ N₆ (fun q hq => .tail _ (.tail _ hq)) (.tail _ (.head _)) lt
theorem lw6n (X : (hd2.heap_39 w.params).In h₀) (T : Top p loose mean mg mb h₀) (B : Below A base fr h₀) (hh : A.handled = none) (hroom : A.depth + 1 < recursionLimit) (hu : A.units + 60 < cLine)
    (F : Fr h₀ L h m) (N : News h₀ L h led) {wv : Int} (mw : m (Str.ofString "way") = some (.int wv tw)) (hw : ¬ 2 ≤ wv)
    (kk : ∀ h' tk', Fr h₀ L h' (fun y => if y = Str.ofString "varkw" then some .none else m y) → News h₀ L h' led → Q .next { s with heap := h', toks := tk' }) :
    wpAny (model PySem.Challenge.pw_dw0016_02 w) (A.deeper (lwEnv L fa cd)) (exec (nth lwBody 6) (lwEnv L fa cd)) Q E { s with heap := h, toks := tk } := by
  dsimp only [Mine.lwEnv]
  conv in (occs := *) (Mine.stScope Mine.lwStmt) => all_goals whnf
  conv in (nth lwBody 6) => whnf
  k_steps
  exact kk _ _ (by assumption) (by assumption)
theorem lw6y (X : (hd2.heap_39 w.params).In h₀) (T : Top p loose mean mg mb h₀) (B : Below A base fr h₀) (hh : A.handled = none) (hroom : A.depth + 1 < recursionLimit) (hu : A.units + 60 < cLine)
    (F : Fr h₀ L h m) (N : News h₀ L h led) {wv : Int} (mw : m (Str.ofString "way") = some (.int wv tw)) (hw : 2 ≤ wv) (ma : m (Str.ofString "args") = some (.ref AR)) {ars : List Value} {y : Value} (hA : (AR, W.listOf (List.toArray (ars ++ [y])) c) ∈ led) (hal : ars.length ≤ 1000)
    (kk : ∀ h' tk' led', Fr h₀ L h' (fun z => if z = Str.ofString "varkw" then some y else m z) → News h₀ L h' led' → Turned led led' AR (W.listOf (List.toArray ars) (c + 1)) → Q .next { s with heap := h', toks := tk' }) :
    wpAny (model PySem.Challenge.pw_dw0016_02 w) (A.deeper (lwEnv L fa cd)) (exec (nth lwBody 6) (lwEnv L fa cd)) Q E { s with heap := h, toks := tk } := by
  dsimp only [Mine.lwEnv]
  conv in (occs := *) (Mine.stScope Mine.lwStmt) => all_goals whnf
  conv in (nth lwBody 6) => whnf
  k_steps
  refine method_M PySem.F.slot_list_pop PySem.F.type_list_pop (by assumption) hA ?_
  k_steps
  rename Fr _ _ _ _ => F₂
  rename News _ _ _ _ => N₂
  refine pop_M (rv := ars) F₂ N₂ hA (by omega) fun h₅ nw F₅ N₅ Tu => ?_
  clear F₂ N₂
  k_steps
  rename Fr _ _ _ _ => F₆
  rename News _ _ _ _ => N₆
  exact kk _ _ nw F₆ N₆ Tu
theorem lw7n (X : (hd2.heap_39 w.params).In h₀) (T : Top p loose mean mg mb h₀) (B : Below A base fr h₀) (hh : A.handled = none) (hroom : A.depth + 1 < recursionLimit) (hu : A.units + 60 < cLine)
    (F : Fr h₀ L h m) (N : News h₀ L h led) {wv : Int} (mw : m (Str.ofString "way") = some (.int wv tw)) (hw : ¬ wv.fmod 2 = 1)
    (kk : ∀ h' tk' t, Fr h₀ L h' (fun y => if y = Str.ofString "varargs" then some (.str (Str.ofString "") t) else m y) → News h₀ L h' led → Q .next { s with heap := h', toks := tk' }) :
    wpAny (model PySem.Challenge.pw_dw0016_02 w) (A.deeper (lwEnv L fa cd)) (exec (nth lwBody 7) (lwEnv L fa cd)) Q E { s with heap := h, toks := tk } := by
  dsimp only [Mine.lwEnv]
  conv in (occs := *) (Mine.stScope Mine.lwStmt) => all_goals whnf
  conv in (nth lwBody 7) => whnf
  k_steps
  · exact absurd (by assumption) hw
  · exact kk _ _ _ (by assumption) (by assumption)
theorem lw7y (X : (hd2.heap_39 w.params).In h₀) (T : Top p loose mean mg mb h₀) (B : Below A base fr h₀) (hh : A.handled = none) (hroom : A.depth + 1 < recursionLimit) (hu : A.units + 60 < cLine)
    (F : Fr h₀ L h m) (N : News h₀ L h led) {wv : Int} (mw : m (Str.ofString "way") = some (.int wv tw)) (hw : wv.fmod 2 = 1) (ma : m (Str.ofString "args") = some (.ref AR)) {ars : List Value} {y : Value} (hA : (AR, W.listOf (List.toArray (ars ++ [y])) c) ∈ led) (hal : ars.length ≤ 1000)
    (kk : ∀ h' tk' led', Fr h₀ L h' (fun z => if z = Str.ofString "varargs" then some y else m z) → News h₀ L h' led' → Turned led led' AR (W.listOf (List.toArray ars) (c + 1)) → Q .next { s with heap := h', toks := tk' }) :
    wpAny (model PySem.Challenge.pw_dw0016_02 w) (A.deeper (lwEnv L fa cd)) (exec (nth lwBody 7) (lwEnv L fa cd)) Q E { s with heap := h, toks := tk } := by
  dsimp only [Mine.lwEnv]
  conv in (occs := *) (Mine.stScope Mine.lwStmt) => all_goals whnf
  conv in (nth lwBody 7) => whnf
  k_steps
  rotate_left
  · exact absurd hw (by assumption)
  refine method_M PySem.F.slot_list_pop PySem.F.type_list_pop (by assumption) hA ?_
  k_steps
  rename Fr _ _ _ _ => F₂
  rename News _ _ _ _ => N₂
  refine pop_M (rv := ars) F₂ N₂ hA (by omega) fun h₅ nw F₅ N₅ Tu => ?_
  clear F₂ N₂
  k_steps
  rename Fr _ _ _ _ => F₆
  rename News _ _ _ _ => N₆
  exact kk _ _ nw F₆ N₆ Tu
theorem ints_rep (i : Int) (t : Tok) : ∀ k : Nat, IntsAre (List.replicate k [Value.int i t]).flatten (List.replicate k i)
  | 0 => .nil
  | k + 1 => by
    rw [List.replicate_succ, List.replicate_succ, List.flatten_cons]
    exact .cons i t (ints_rep i t k)
theorem ints_app {vs us : List Value} {ns ms : List Int} (h : IntsAre vs ns) (g : IntsAre us ms) : IntsAre (vs ++ us) (ns ++ ms) := by
  induction h with
  | nil => exact g
  | cons n t _ ih => exact .cons n t ih
theorem lw8 (X : (hd2.heap_39 w.params).In h₀) (T : Top p loose mean mg mb h₀) (B : Below A base fr h₀) (hh : A.handled = none) (hroom : A.depth + 1 < recursionLimit) (hu : A.units + 60 < cLine)
    (F : Fr h₀ L h m) (N : News h₀ L h led) {wv : Int} (mw : m (Str.ofString "way") = some (.int wv tw)) (hw0 : 0 ≤ wv) (hw4 : wv < 4) (ma : m (Str.ofString "args") = some (.ref AR)) {ars : List Value} (hA : (AR, W.listOf (List.toArray ars) c) ∈ led) (hal : ars.length ≤ 100) (e6 : (L + 6, co6) ∈ led) (d6 : co6.data = .cell v6)
    (kk : ∀ h' tk' led₁ led' ST sts co', Fr h₀ L h' m → News h₀ L h' led' → (∀ q ∈ led, q ∈ led₁) → Turned ((ST, W.listOf (List.toArray sts) 0) :: led₁) led' (L + 6) co' → co'.data = .cell (some (.ref ST)) → (∀ q ∈ led, q.1 < ST) → IntsAre sts (List.replicate ars.length 0 ++ List.replicate (wv.fmod 2).toNat 1 ++ List.replicate (wv.fdiv 2).toNat 2) → Q .next { s with heap := h', toks := tk' }) :
    wpAny (model PySem.Challenge.pw_dw0016_02 w) (A.deeper (lwEnv L fa cd)) (exec (nth lwBody 8) (lwEnv L fa cd)) Q E { s with heap := h, toks := tk } := by
  dsimp only [Mine.lwEnv]
  conv in (occs := *) (Mine.stScope Mine.lwStmt) => all_goals whnf
  conv in (nth lwBody 8) => whnf
  have b1 := Int.fmod_nonneg_of_pos wv (b := 2) (by decide)
  have b2 := Int.fmod_lt_of_pos wv (b := 2) (by decide)
  have b3 : 0 ≤ wv.fdiv 2 ∧ wv.fdiv 2 < 2 := by
    have := Int.mul_fdiv_add_fmod wv 2
    omega
  k_steps
  refine len_M (j := ars.length) (by assumption) (.tail _ hA) (by omega) rfl ?_
  k_steps
  rename Fr _ _ _ _ => F₂
  rename News _ _ _ _ => N₂
  refine KMa.mul F₂ N₂ ⟨_, (N₂ _ (.head _)).1, rfl, _, rfl⟩ (by omega) (by omega) (by simp; omega) rfl (fun D₁ h' F' N' l1 => ?_)
  clear F₂ N₂
  k_steps
  rename Fr _ _ _ _ => F₂
  rename News _ _ _ _ => N₂
  refine KMa.mul F₂ N₂ ⟨_, (N₂ _ (.head _)).1, rfl, _, rfl⟩ (by omega) (by omega) (by simp; omega) rfl (fun D₂ h' F' N' l2 => ?_)
  clear F₂ N₂
  k_steps
  rename Fr _ _ _ _ => F₂
  rename News _ _ _ _ => N₂
  refine kmk_add_lit F₂ N₂ ⟨_, (N₂ _ (.tail _ (.tail _ (.head _)))).1, rfl, _, rfl⟩ ⟨_, (N₂ _ (.head _)).1, rfl, _, rfl⟩ rfl (fun D₃ h' F' N' l3 => ?_) (by simp; have : sizeLine = 2 ^ 24 := rfl; omega)
  clear F₂ N₂
  k_steps
  rename Fr _ _ _ _ => F₂
  rename News _ _ _ _ => N₂
  refine KMa.mul F₂ N₂ ⟨_, (N₂ _ (.head _)).1, rfl, _, rfl⟩ (by omega) (by omega) (by simp; omega) rfl (fun D₄ h' F' N' l4 => ?_)
  clear F₂ N₂
  k_steps
  rename Fr _ _ _ _ => F₂
  rename News _ _ _ _ => N₂
  refine kmk_add_lit F₂ N₂ ⟨_, (N₂ _ (.tail _ (.tail _ (.head _)))).1, rfl, _, rfl⟩ ⟨_, (N₂ _ (.head _)).1, rfl, _, rfl⟩ rfl (fun ST h' F' N' l5 => ?_) (by simp; have : sizeLine = 2 ^ 24 := rfl; omega)
  clear F₂ N₂
  k_steps
  rename Fr _ _ _ _ => F₂
  rename News _ _ _ _ => N₂
  refine stCe F₂ N₂ rfl (.tail _ (.tail _ (.tail _ (.tail _ (.tail _ (.tail _ (.tail _ (.tail _ e6)))))))) d6 fun h₅ co' led' F₅ N₅ Tu hd => ?_
  clear F₂ N₂
  k_steps
  rename Fr _ _ _ _ => F₆
  rename News _ _ _ _ => N₆
  exact kk _ _ _ led' ST _ co' F₆ N₆ (fun q hq => .tail _ (.tail _ (.tail _ (.tail _ (.tail _ (.tail _ (.tail _ hq))))))) Tu hd (fun q hq => l5 q (.tail _ (.tail _ (.tail _ (.tail _ (.tail _ (.tail _ (.tail _ hq)))))))) (ints_app (ints_app (ints_rep _ _ _) (ints_rep _ _ _)) (ints_rep _ _ _))
end
end Mine
end -- W4
section -- W5
open PySem PySem.W PyProof.Rows PySem.Calls PySem.Spec
set_option maxHeartbeats 8000000
namespace Mine
variable {w : World} {base : Heap} {p : Program} {loose : List Str} {mean : ExcName → Option Value} {mg mb : Str → Option Value}
/-! law's three lambdas: made, and what they do -/
noncomputable def AllRec (h : Heap) (q : Str) : List Value → Prop
  | .int _ _ :: .int _ _ :: c :: rest => (∃ a, c = Value.ref a ∧ h.CodeRec (.ref a) q) ∧ AllRec h q rest
  | _ => True
noncomputable def TabT (P : Addr) (q : Str) (h : Heap) : Prop := ∃ ps, h.get? P = some (tabObj ps) ∧ TriplesOk ps.toList ∧ AllRec h q ps.toList
theorem AllRec.move {h h' : Heap} {q : Str} (k : ∀ c, h.CodeRec (.ref c) q → h'.CodeRec (.ref c) q) : ∀ l, TriplesOk l → AllRec h q l → AllRec h' q l
  | [], _, _ => True.intro
  | .int _ _ :: .int _ _ :: c :: rest, ht, ⟨⟨a, e, r⟩, x⟩ => ⟨⟨a, e, k a r⟩, AllRec.move k rest ht x⟩
theorem among_rec {h : Heap} {q : Str} {pos : Pos} {cv : Value} : ∀ l, TriplesOk l → AllRec h q l → codeAmong pos l = some cv → ∃ c, cv = Value.ref c ∧ h.CodeRec (.ref c) q
  | [], _, _, h => by cases h
  | .int x tx :: .int y ty :: d :: l, ht, ⟨hr, hl⟩, h => by
    simp only [codeAmong] at h
    split at h
    · rw [← Option.some.inj h]; exact hr
    · exact among_rec l ht hl h
theorem rec_app {h : Heap} {q : Str} {a b : Int} {ta tb : Tok} {c : Value} (hc : ∃ a, c = Value.ref a ∧ h.CodeRec (.ref a) q) : ∀ l, TriplesOk l → AllRec h q l → AllRec h q (l ++ [.int a ta, .int b tb, c])
  | [], _, _ => ⟨hc, True.intro⟩
  | .int x tx :: .int y ty :: d :: l, ht, ⟨hr, hl⟩ => ⟨hr, rec_app hc l ht hl⟩
theorem triples_app {a b : Int} {ta tb : Tok} {c : Value} : ∀ l : List Value, TriplesOk l → TriplesOk (l ++ [.int a ta, .int b tb, c])
  | [], _ => True.intro
  | .int x tx :: .int y ty :: d :: l, ht => triples_app l ht
theorem triples_one {ps : Array Value} (h : TriplesOk ps.toList) (x : Str) (t : Tok) : ps[1]? ≠ some (Value.str x t) := by
  rw [← Array.getElem?_toList]
  generalize ps.toList = l at h ⊢
  match l, h with
  | [], _ => simp
  | .int _ _ :: .int _ _ :: _ :: _, _ => simp
theorem TabT.nil {P : Addr} {q : Str} {h : Heap} (e : h.get? P = some (tabObj #[])) : TabT P q h := ⟨#[], e, True.intro, True.intro⟩
theorem TabT.keeps {P : Addr} {q : Str} {h h' : Heap} (H : TabT P q h) (k : h.StaysIn h') : TabT P q h' := let ⟨ps, a, b, c⟩ := H; ⟨ps, k _ _ a, b, AllRec.move (fun _ r => r.keeps k) _ b c⟩
theorem TabT.but {P : Addr} {q : Str} {h h' : Heap} (H : TabT P q h) {S : List Addr} (k : KeepBut S h h') (hP : P ∉ S) (hc : ∀ c, h.CodeRec (.ref c) q → c ∉ S) : TabT P q h' :=
  let ⟨ps, a, b, c⟩ := H; ⟨ps, k _ _ hP a, b, AllRec.move (fun c r => codeRec_but r k (hc c r)) _ b c⟩
theorem recs_own {h₀ h : Heap} {L : Addr} {m : Str → Option Value} {q : Str} (F : Fr h₀ L h m) : ∀ l, TriplesOk l → AllRec h q l → ∃ cr, News h₀ L h cr ∧ (∀ z ∈ cr, IsRec z.2) ∧ ∀ h', h₀.StaysIn h' → HoldsAll cr h' → AllRec h' q l
  | [], _, _ => ⟨[], News.nil, fun _ h => (nomatch h), fun _ _ _ => True.intro⟩
  | .int _ _ :: .int _ _ :: c :: l, ht, ⟨⟨a, e, r⟩, x⟩ => by
    obtain ⟨cr, n1, n2, n3⟩ := recs_own F l ht x
    obtain ⟨cs, m1, m2, m3⟩ := codeRec_own F r
    exact ⟨cs ++ cr, news_append m1 n1, fun z hz => (List.mem_append.mp hz).elim (fun q => (m2 z q).2) (n2 z), fun h' st hh => ⟨⟨a, e, m3 h' st fun z hz => hh z (List.mem_append_left _ hz)⟩, n3 h' st fun z hz => hh z (List.mem_append_right _ hz)⟩⟩
theorem TabT.own {P : Addr} {q : Str} {h₀ h : Heap} {L : Addr} {m : Str → Option Value} (F : Fr h₀ L h m) (H : TabT P q h) (h0 : h₀.get? P = none) (hL : P ≠ L) :
    ∃ cr, News h₀ L h cr ∧ (∀ z ∈ cr, z.1 = P ∨ IsRec z.2) ∧ ∀ h', h₀.StaysIn h' → HoldsAll cr h' → TabT P q h' := by
  obtain ⟨ps, a, b, c⟩ := H
  obtain ⟨cr, n1, n2, n3⟩ := recs_own F _ b c
  exact ⟨(P, tabObj ps) :: cr, news_cons ⟨a, hL, h0⟩ n1, List.forall_mem_cons.mpr ⟨.inl rfl, fun z hz => .inr (n2 z hz)⟩, fun h' st hh => ⟨ps, hh _ (.head _), b, n3 h' st fun z hz => hh z (.tail _ hz)⟩⟩
theorem mk_lamG {M : Model} {A : Around} {E : Value → Shared → Prop} {s : Shared} {h₀ : Heap} {L c P : Addr} {m mg mb : Str → Option Value} {env : Env}
    {p : Program} {loose : List Str} {mean : ExcName → Option Value} {name qual : Str} {params : Arguments} {body : PySem.Expr} {scope : Scope} {pos : Pos} {firstLine : Nat} {clos : List (Str × Addr)} {Q : Value → Shared → Prop}
    (F : Fr h₀ L s.heap m) (T : Top p loose mean mg mb h₀) (C : CodeHd h₀ c P) (hge0 : env.globals = mainGlobals) (hcd : env.code = .ref c) (hP0 : h₀.get? P = none) (hPL : P ≠ L) (H : TabT P qual s.heap) (hcl : closureFor scope env = pure clos)
    (h : ∀ f c' ctv doc h' tk, KeepBut [P] s.heap h' → Fr h₀ L h' m → (∀ b o, s.heap.get? b = some o → b < f) → h'.get? f = some (kdv_obj name qual params (.expr body) scope clos .none doc ((mg "__name__").getD .none) c' ctv) → s.heap.objs.size ≤ f → h'.CodeRec (.ref c') qual → TabT P qual h' → Q (.ref f) { s with heap := h', toks := tk }) :
    wpAny M A (makeFunction name qual params (.expr body) scope env [] [] [] pos firstLine) Q E s := by
  rw [makeFunction_eq]
  simp only [List.zip_nil_right, List.filterMap_nil, List.isEmpty_nil, if_true, pure_bind]
  have hgs := T.g.keeps F.keep
  obtain ⟨bm, ob, b1, b2, b3, b4, b5, b6⟩ := T.bmain
  have hgP : mainGlobals ≠ P := fun q => by
    obtain ⟨o, es, ep, e, hd, _⟩ := T.g
    rw [q, hP0] at e; cases e
  have hbP : bm ≠ P := fun q => by
    rw [q, hP0] at b3; cases b3
  have hbG : bm ≠ mainGlobals := fun q => by
    obtain ⟨o, es, ep, e, hd, _⟩ := T.g
    rw [q, e] at b3; cases b3; rw [hd] at b6; cases b6
  have hLs : L < s.heap.objs.size := F.ns.lt
  obtain ⟨ps, hm, ht, hr⟩ := H
  cases hc : codeAmong pos ps.toList with
  | none =>
    refine kdv_makeTail (mg := mg) hcl hge0 hgs hcd (C.keeps F.keep) hm ht hc hgP ⟨bm, ob, b1, b2, hbG, hbP, F.keep _ _ b3, b4, b5, b6⟩ fun c' ctv doc h' tk hx hge hlt hrec htb => ?_
    have old : ∀ b o, h₀.get? b = some o → h'.get? b = some o := fun b o e => hx b o (fun q => by rw [q, hP0] at e; cases e) (F.keep b o e)
    refine h h'.objs.size c' ctv doc _ tk (fun b o hb e => Heap.get?_push_of_some _ (hx b o (fun q => hb (List.mem_singleton.mpr q)) e)) ⟨(F.ns.extBut hx hPL.symm).push _, fun b o e => Heap.get?_push_of_some _ (old b o e), F.above⟩
      (fun b o e => Nat.lt_of_lt_of_le (Heap.lt_size e) (Nat.le_trans hge (Nat.le_of_lt hlt))) (Heap.get?_push_size _ rfl) (Nat.le_trans hge (Nat.le_of_lt hlt)) (hrec.keeps fun b o e => Heap.get?_push_of_some _ e) ⟨_, Heap.get?_push_of_some _ htb, ?_, ?_⟩
    · rw [Array.toList_append]; exact triples_app _ ht
    · rw [Array.toList_append]
      refine rec_app ⟨c', rfl, hrec.keeps fun b o e => Heap.get?_push_of_some _ e⟩ _ ht (AllRec.move (fun c2 r2 => ?_) _ ht hr)
      have hne := codeRec_ne r2 hm (triples_one ht)
      obtain ⟨c3, o, vs, t, g1, g2, g3, g4⟩ := r2
      cases g1
      exact ⟨c2, o, vs, t, rfl, Heap.get?_push_of_some _ (hx c2 o hne g2), g3, g4⟩
  | some cv =>
    obtain ⟨c', rfl, hrc⟩ := among_rec _ ht hr hc
    refine kdv_makeTailHit (mg := mg) (cv := .ref c') hcl hge0 hgs hcd (C.keeps F.keep) hm ht hc ⟨bm, ob, b1, b2, hbG, hbP, F.keep _ _ b3, b4, b5, b6⟩ fun ctv doc h' tk hk hsz => ?_
    have up : ∀ b o, s.heap.get? b = some o → (h'.push (kdv_obj name qual params (.expr body) scope clos .none doc ((mg "__name__").getD .none) c' ctv)).get? b = some o := fun b o e => Heap.get?_push_of_some _ (hk b o e)
    refine h h'.objs.size c' ctv doc _ tk (fun b o _ e => up b o e) ⟨(F.ns.keeps hk).push _, fun b o e => Heap.get?_push_of_some _ (hk b o (F.keep b o e)), F.above⟩
      (fun b o e => Nat.lt_of_lt_of_le (Heap.lt_size e) hsz) (Heap.get?_push_size _ rfl) hsz (hrc.keeps up) (TabT.keeps ⟨ps, hm, ht, hr⟩ up)
noncomputable def lamQual : Str := "law.<locals>.<lambda>"
noncomputable def lwFor : Stmt := nth lwBody 9
noncomputable def tryBody : Stmt → List Stmt
  | .Try b _ _ _ _ => b
  | _ => []
noncomputable def tupNth (e : PySem.Expr) (i : Nat) : PySem.Expr := match e with
  | .Tuple l _ _ => l.getD i default
  | e => e
noncomputable def callNth (e : PySem.Expr) (i : Nat) : PySem.Expr := match e with
  | .Call _ l _ _ => l.getD i default
  | e => e
noncomputable def kwNth (e : PySem.Expr) (i : Nat) : PySem.Expr := match e with
  | .Call _ _ l _ => ((l.map (·.value)).getD i default)
  | e => e
noncomputable def lwTry : Stmt := nth (stLoopB lwFor) 1
noncomputable def favCall : PySem.Expr := tupNth (asgVal (nth (tryBody lwTry) 0)) 0
noncomputable def lamE (i : Nat) : PySem.Expr := match i with
  | 0 => callNth favCall 4
  | 1 => kwNth favCall 0
  | _ => kwNth favCall 1
noncomputable abbrev lamObj (i : Nat) (cell : Addr) (doc pm : Value) (c' : Addr) (ctv : Value) : Obj := kdv_obj (Str.ofString "<lambda>") lamQual (lamArgs (lamE i)) (.expr (lamBody (lamE i))) (lamScope (lamE i)) [(Str.ofString "sheet", cell)] .none doc pm c' ctv
noncomputable def LamAt (i : Nat) (f cell sheet : Addr) (h : Heap) : Prop := ∃ doc pm c' ctv, h.get? f = some (lamObj i cell doc pm c' ctv) ∧ h.IsCell cell (some (.ref sheet)) ∧ h.CodeRec (.ref c') lamQual
theorem LamAt.keeps {i : Nat} {f cell sheet : Addr} {h h' : Heap} (x : LamAt i f cell sheet h) (k : h.StaysIn h') : LamAt i f cell sheet h' :=
  let ⟨doc, pm, c', ctv, a, b, c⟩ := x; ⟨doc, pm, c', ctv, k _ _ a, b.keeps k, c.keeps k⟩
theorem LamAt.fn {i : Nat} {f cell sheet : Addr} {h : Heap} (x : LamAt i f cell sheet h) : FnAt f h := let ⟨_, _, _, _, a, _⟩ := x; ⟨_, _, _, _, a⟩
local macro_rules | `(tactic| walk_at "eval Name") => `(tactic| (name_kind "free"; with_unfolding_all refine Mine.nameFree (by assumption) (by assumption) (by rfl) ?_))
local macro_rules | `(tactic| walk_at "call ref cons nil") => `(tactic| refine Mine.Stop.mk ?_)
theorem lamT0 (bs : Base1 w base p loose mean mg mb) {T G : Addr} {D : Str → Int} {way cell sheet : Addr} {n : Str} {tn : Tok} {res : List Str → Res} {x : List Str} {dv uv : Nat} {Ex : Heap → Prop} (hb : ∀ b ∈ shS T G, base.get? b = none) (hEx : ∀ h, Ex h → LamAt 0 way cell sheet h) (hnl : n.length ≤ 100)
    (hnm : ∀ t, Calls PySem.Challenge.pw_dw0016_02 w base (shS T G) dv uv (Sh w D T G x) (.ref 55) [.ref sheet, .str n t] [] (TellOk w D T G Str.empty n (res x)) (TellEr w D T G (res x))) :
    Calls PySem.Challenge.pw_dw0016_02 w base (shS T G) (dv + 2) (uv + 20) (fun h => Sh w D T G x h ∧ Ex (hideAll h (shS T G))) (.ref way) [.str n tn] [] (TellOk w D T G Str.empty n (res x)) (TellEr w D T G (res x)) := by
  intro A fr s Q E hA st ff hSf hpre hh hroom hu hQ hE
  obtain ⟨doc, pm, c', ctv, w1, w2, w3⟩ := hEx _ hpre.2
  have g1 := (hide_some w1).1
  suffices H : Calls PySem.Challenge.pw_dw0016_02 w base (shS T G) (dv + 2) (uv + 20) (fun h => (Sh w D T G x h ∧ Ex (hideAll h (shS T G))) ∧ h.get? way = some (lamObj 0 cell doc pm c' ctv) ∧ h.CodeRec (.ref c') lamQual) (.ref way) [.str n tn] [] (TellOk w D T G Str.empty n (res x)) (TellEr w D T G (res x)) by
    exact H A fr s Q E hA st ff hSf ⟨hpre, g1, w3.keeps fun b o e => (hide_some e).1⟩ hh hroom hu hQ hE
  refine' calls_expr (cl := [(Str.ofString "sheet", cell)]) (binds := [(Str.ofString "name", .str n tn)]) hb bs.T.nolimit (fun h hp _ => hp.2.1) rfl (fun h hp _ => hp.2.2) (by omega) ?hbind ?hloc ?body ?hcell ?hco ?hgen ?hk
  case hbind => exact rfl
  case hloc => exact locs rfl
  case hcell => decide
  case hco => exact rfl
  case hgen => exact rfl
  case hk => exact rfl
  clear hQ hE hpre w1 w2 w3 g1 hA st ff hSf hh hroom hu A fr s Q E
  intro A fr s L h₁ hA hpre hh hroom hu ff hSf stg B F st₁ hL
  obtain ⟨⟨hsh, hex⟩, _, _⟩ := hpre
  obtain ⟨doc', pm', c'', ctv', w1, w2, w3⟩ := hEx _ hex
  have X := bs.K.keeps stg
  have Tp := bs.T.keeps stg
  have hSL := hideS hsh.have hL
  obtain ⟨oT, kvs, vs, c, cod, N, O⟩ := (hsh.keeps st₁).own F hSL
  have hSf' : ∀ b ∈ shS T G, b ∉ frs (envX lamQual (lamScope (lamE 0)) L way (Value.ref c') [(Str.ofString "sheet", cell)] :: fr) := fun b hb hm => by
    rcases List.mem_cons.mp hm with e | hm
    · exact (hSL b hb).2 e
    · exact hSf b hb hm
  conv in (lamBody (lamE 0)) => whnf
  k_steps
  show wpAny _ _ (call _ _ _) _ _ _
  rename Fr _ _ _ _ => F'
  rename News _ _ _ _ => N'
  refine use_calls (hnm tn) B F' rfl rfl hSf' (O.sh F'.keep (N' _ (.head _)).1 (N' _ (.tail _ (.head _))).1 fun z hz => (N' z (.tail _ (.tail _ hz))).1) hh (by omega) (by omega) ?_ ?_
  · rintro r h₂ tk₂ k₂ ⟨x', t₂, hx', rfl, hs₂⟩
    have F₂ := fr_but F' k₂ hSL
    clear F' N'
    k_steps
    exact Out.mk (Fr.keep (by assumption)) ⟨x', _, hx', rfl, hs₂⟩
  · intro y e h₂ tk₂ U
    refine up_leave (h := s.heap) hA rfl (Nat.le_of_eq hL.symm) (KeepBut.of_stays st₁) rfl U fun h'' U' => ?_
    exact ⟨y, e, h'', _, rfl, rfl, U'⟩
theorem lamT1 (bs : Base1 w base p loose mean mg mb) {T G : Addr} {D : Str → Int} {way cell sheet : Addr} {n : Str} {tn : Tok} {res : List Str → Res} {x : List Str} {dv uv : Nat} {Ex : Heap → Prop} (hb : ∀ b ∈ shS T G, base.get? b = none) (hEx : ∀ h, Ex h → LamAt 1 way cell sheet h) (hnl : n.length ≤ 100)
    (hnm : ∀ t, Calls PySem.Challenge.pw_dw0016_02 w base (shS T G) dv uv (Sh w D T G x) (.ref 55) [.ref sheet, .str n t] [] (TellOk w D T G Str.empty n (res x)) (TellEr w D T G (res x))) :
    Calls PySem.Challenge.pw_dw0016_02 w base (shS T G) (dv + 2) (uv + 20) (fun h => Sh w D T G x h ∧ Ex (hideAll h (shS T G))) (.ref way) [.str n tn] [] (TellOk w D T G (Str.ofString "*") n (res x)) (TellEr w D T G (res x)) := by
  intro A fr s Q E hA st ff hSf hpre hh hroom hu hQ hE
  obtain ⟨doc, pm, c', ctv, w1, w2, w3⟩ := hEx _ hpre.2
  have g1 := (hide_some w1).1
  suffices H : Calls PySem.Challenge.pw_dw0016_02 w base (shS T G) (dv + 2) (uv + 20) (fun h => (Sh w D T G x h ∧ Ex (hideAll h (shS T G))) ∧ h.get? way = some (lamObj 1 cell doc pm c' ctv) ∧ h.CodeRec (.ref c') lamQual) (.ref way) [.str n tn] [] (TellOk w D T G (Str.ofString "*") n (res x)) (TellEr w D T G (res x)) by
    exact H A fr s Q E hA st ff hSf ⟨hpre, g1, w3.keeps fun b o e => (hide_some e).1⟩ hh hroom hu hQ hE
  refine' calls_expr (cl := [(Str.ofString "sheet", cell)]) (binds := [(Str.ofString "name", .str n tn)]) hb bs.T.nolimit (fun h hp _ => hp.2.1) rfl (fun h hp _ => hp.2.2) (by omega) ?hbind ?hloc ?body ?hcell ?hco ?hgen ?hk
  case hbind => exact rfl
  case hloc => exact locs rfl
  case hcell => decide
  case hco => exact rfl
  case hgen => exact rfl
  case hk => exact rfl
  clear hQ hE hpre w1 w2 w3 g1 hA st ff hSf hh hroom hu A fr s Q E
  intro A fr s L h₁ hA hpre hh hroom hu ff hSf stg B F st₁ hL
  obtain ⟨⟨hsh, hex⟩, _, _⟩ := hpre
  obtain ⟨doc', pm', c'', ctv', w1, w2, w3⟩ := hEx _ hex
  have X := bs.K.keeps stg
  have Tp := bs.T.keeps stg
  have hSL := hideS hsh.have hL
  obtain ⟨oT, kvs, vs, c, cod, N, O⟩ := (hsh.keeps st₁).own F hSL
  have hSf' : ∀ b ∈ shS T G, b ∉ frs (envX lamQual (lamScope (lamE 1)) L way (Value.ref c') [(Str.ofString "sheet", cell)] :: fr) := fun b hb hm => by
    rcases List.mem_cons.mp hm with e | hm
    · exact (hSL b hb).2 e
    · exact hSf b hb hm
  conv in (lamBody (lamE 1)) => whnf
  k_steps
  show wpAny _ _ (call _ _ _) _ _ _
  rename Fr _ _ _ _ => F'
  rename News _ _ _ _ => N'
  refine use_calls (hnm tn) B F' rfl rfl hSf' (O.sh F'.keep (N' _ (.head _)).1 (N' _ (.tail _ (.head _))).1 fun z hz => (N' z (.tail _ (.tail _ hz))).1) hh (by omega) (by omega) ?_ ?_
  · rintro r h₂ tk₂ k₂ ⟨x', t₂, hx', rfl, hs₂⟩
    have F₂ := fr_but F' k₂ hSL
    clear F' N'
    rw [show Str.empty ++ n = n from Str.empty_append n]
    k_steps
    exact Out.mk (Fr.keep (by assumption)) ⟨x', _, hx', rfl, hs₂⟩
  · intro y e h₂ tk₂ U
    refine up_leave (h := s.heap) hA rfl (Nat.le_of_eq hL.symm) (KeepBut.of_stays st₁) rfl U fun h'' U' => ?_
    exact ⟨y, e, h'', _, rfl, rfl, U'⟩
theorem lamT2 (bs : Base1 w base p loose mean mg mb) {T G : Addr} {D : Str → Int} {way cell sheet : Addr} {n : Str} {tn : Tok} {res : List Str → Res} {x : List Str} {dv uv : Nat} {Ex : Heap → Prop} (hb : ∀ b ∈ shS T G, base.get? b = none) (hEx : ∀ h, Ex h → LamAt 2 way cell sheet h) (hnl : n.length ≤ 100)
    (hnm : ∀ t, Calls PySem.Challenge.pw_dw0016_02 w base (shS T G) dv uv (Sh w D T G x) (.ref 55) [.ref sheet, .str n t] [] (TellOk w D T G Str.empty n (res x)) (TellEr w D T G (res x))) :
    Calls PySem.Challenge.pw_dw0016_02 w base (shS T G) (dv + 2) (uv + 20) (fun h => Sh w D T G x h ∧ Ex (hideAll h (shS T G))) (.ref way) [.str n tn] [] (TellOk w D T G (Str.ofString "**") n (res x)) (TellEr w D T G (res x)) := by
  intro A fr s Q E hA st ff hSf hpre hh hroom hu hQ hE
  obtain ⟨doc, pm, c', ctv, w1, w2, w3⟩ := hEx _ hpre.2
  have g1 := (hide_some w1).1
  suffices H : Calls PySem.Challenge.pw_dw0016_02 w base (shS T G) (dv + 2) (uv + 20) (fun h => (Sh w D T G x h ∧ Ex (hideAll h (shS T G))) ∧ h.get? way = some (lamObj 2 cell doc pm c' ctv) ∧ h.CodeRec (.ref c') lamQual) (.ref way) [.str n tn] [] (TellOk w D T G (Str.ofString "**") n (res x)) (TellEr w D T G (res x)) by
    exact H A fr s Q E hA st ff hSf ⟨hpre, g1, w3.keeps fun b o e => (hide_some e).1⟩ hh hroom hu hQ hE
  refine' calls_expr (cl := [(Str.ofString "sheet", cell)]) (binds := [(Str.ofString "name", .str n tn)]) hb bs.T.nolimit (fun h hp _ => hp.2.1) rfl (fun h hp _ => hp.2.2) (by omega) ?hbind ?hloc ?body ?hcell ?hco ?hgen ?hk
  case hbind => exact rfl
  case hloc => exact locs rfl
  case hcell => decide
  case hco => exact rfl
  case hgen => exact rfl
  case hk => exact rfl
  clear hQ hE hpre w1 w2 w3 g1 hA st ff hSf hh hroom hu A fr s Q E
  intro A fr s L h₁ hA hpre hh hroom hu ff hSf stg B F st₁ hL
  obtain ⟨⟨hsh, hex⟩, _, _⟩ := hpre
  obtain ⟨doc', pm', c'', ctv', w1, w2, w3⟩ := hEx _ hex
  have X := bs.K.keeps stg
  have Tp := bs.T.keeps stg
  have hSL := hideS hsh.have hL
  obtain ⟨oT, kvs, vs, c, cod, N, O⟩ := (hsh.keeps st₁).own F hSL
  have hSf' : ∀ b ∈ shS T G, b ∉ frs (envX lamQual (lamScope (lamE 2)) L way (Value.ref c') [(Str.ofString "sheet", cell)] :: fr) := fun b hb hm => by
    rcases List.mem_cons.mp hm with e | hm
    · exact (hSL b hb).2 e
    · exact hSf b hb hm
  conv in (lamBody (lamE 2)) => whnf
  k_steps
  show wpAny _ _ (call _ _ _) _ _ _
  rename Fr _ _ _ _ => F'
  rename News _ _ _ _ => N'
  refine use_calls (hnm tn) B F' rfl rfl hSf' (O.sh F'.keep (N' _ (.head _)).1 (N' _ (.tail _ (.head _))).1 fun z hz => (N' z (.tail _ (.tail _ hz))).1) hh (by omega) (by omega) ?_ ?_
  · rintro r h₂ tk₂ k₂ ⟨x', t₂, hx', rfl, hs₂⟩
    have F₂ := fr_but F' k₂ hSL
    clear F' N'
    rw [show Str.empty ++ n = n from Str.empty_append n]
    k_steps
    exact Out.mk (Fr.keep (by assumption)) ⟨x', _, hx', rfl, hs₂⟩
  · intro y e h₂ tk₂ U
    refine up_leave (h := s.heap) hA rfl (Nat.le_of_eq hL.symm) (KeepBut.of_stays st₁) rfl U fun h'' U' => ?_
    exact ⟨y, e, h'', _, rfl, rfl, U'⟩
end Mine
end -- W5
section -- W6
open PySem PySem.W PyProof.Rows PySem.Calls PySem.Spec
set_option maxHeartbeats 8000000
namespace Mine
open PySem.W in
example : callerA.depth + 560 < recursionLimit := by decide
theorem frs_one (env : Env) {L : Addr} (hf : env.frame = some L) : frs [env] = [L] := by simp [frs, hf]
/-- a call by its contract over another base, in the law's frame -/
theorem use_callsB {prog : Program} {w : World} {base base' : Heap} {S : List Addr} {dn un : Nat} {Pre : Heap → Prop} {f : Value} {pos : List Value} {kw : List (Str × Value)} {Ok : Value → Heap → Prop} {Er : Str → Heap → Prop} {A : Around} {s : Shared} {Q E : Value → Shared → Prop} {env : Env} {L : Addr} {m : Str → Option Value}
    (H : Calls prog w base' S dn un Pre f pos kw Ok Er) (B : Below A base [] base) (F : Fr base L s.heap m) (st : base'.StaysIn s.heap) (hbL : base'.get? L = none) (hf : env.frame = some L) (hke : env.scope.kind = .function) (hS : ∀ b ∈ S, b ≠ L) (hpre : Pre s.heap) (hh : A.handled = none)
    (hd : A.depth + 1 + dn < recursionLimit) (hu : A.units + 3 + un < cLine)
    (ok : ∀ v h' tk', KeepBut S s.heap h' → Ok v h' → Q v { s with heap := h', toks := tk' })
    (er : ∀ x e h' tk', Up S (Er x) [env] e x s.heap h' → E (.ref e) { s with heap := h', toks := tk' }) :
    wpAny (model prog w) (A.deeper env) (call f pos kw) Q E s := by
  have B' := pushX B F hf hke
  refine H _ _ _ _ _ B'.stack st ?_ (fun b hb hm => ?_) hpre hh hd hu ok er
  · obtain ⟨a, ⟨L', o, e1, e2, e3, e4⟩, c⟩ := B'.frames
    rw [hf] at e1
    cases e1
    exact ⟨a, ⟨L, o, hf, hbL, e3, e4⟩, True.intro⟩
  · rw [frs_one env hf] at hm
    exact hS b hb (List.mem_singleton.mp hm)
section
variable {prog : Program} {w : World} {A : Around} {E : Value → Shared → Prop} {s' : Shared} {base h : Heap} {L a e : Addr} {m : Str → Option Value} {name : Str} {scope : Scope} {cd : Value}
  {n : Str} {b₀ : Stmt} {suite : List Stmt} {pos np : Pos} {rest : List ExceptHandler} {Q : Flow → Shared → Prop} {news : List (Addr × Obj)}
  {p : Program} {loose : List Str} {mean : ExcName → Option Value} {mg mb : Str → Option Value} {x : Str} {Er : Heap → Prop} {S : List Addr}
theorem caught_S (K : Below A base [] base) (F : Fr base L h m) (hS : ∀ b ∈ S, base.get? b = none ∧ b ≠ L) (N : News base L h news) (hN : ∀ q ∈ news, q.1 ∉ S) (U : Up S Er [envOfC name scope L a cd] e x h s'.heap) (T : Top p loose mean mg mb base)
    (k : ∀ h' tk t xt oe ot ws nt, Fr base L h' (fun y => if y = n then some (.ref e) else m y) → News base L h' ((e, oe) :: (t, ot) :: news) → oe.cls = .type "KeyError" → oe.data = .fields ws → Sees t ws → ot.cls = .type "tuple" → ot.data = .seq #[Value.str x xt] nt → (∃ B, Er B ∧ B.StaysIn h' ∧ (hideAll h (S ++ [L])).StaysIn B ∧ B.get? e = none ∧ B.get? t = none) →
      wpAny (model prog w) ((A.deeper (envOfC name scope L a cd)).mark (some (.ref e))) (execs (b₀ :: suite) (envOfC name scope L a cd))
        (fun f s₄ => wpAny (model prog w) (A.deeper (envOfC name scope L a cd)) (do bindName (envOfC name scope L a cd) n .none; unbindBehindTheSuite (envOfC name scope L a cd) n pos) (fun _ s₅ => Q f s₅) E s₄)
        (AsSuiteRaised (model prog w) ((A.deeper (envOfC name scope L a cd)).mark (some (.ref e))) (envOfC name scope L a cd) n pos (notedBy (model prog w) ((A.deeper (envOfC name scope L a cd)).mark (some (.ref e))) (envOfC name scope L a cd) (cameBackBy (model prog w) (A.deeper (envOfC name scope L a cd)) (envOfC name scope L a cd) E)))
        { s' with heap := h', toks := tk })
    (h2 : (Str.ofString "KeyError") ∉ loose) (h3 : (Str.ofString "KeyError") ∉ (recsOf p).map (·.name)) (h4 : (Str.ofString "KeyError") ∉ (litsOf p).map (·.1)) (h4c : (Str.ofString "KeyError") ∉ (clssOf p loose).map (·.name))
    (hk : scope.kind = .function := by rfl) (hlo : (envOfC name scope L a cd).kindOf n = some .local := by rfl) (hx : (envOfC name scope L a cd).kindOf (Str.ofString "KeyError") = some .globalImplicit := by rfl) :
    wpAny (model prog w) (A.deeper (envOfC name scope L a cd)) (noteFrame (.ref e) (envOfC name scope L a cd))
      (fun _ s₂ => wpAny (model prog w) (A.deeper (envOfC name scope L a cd)) (setFlight (.ref e) none) (fun _ s₃ =>
        wpAny (model prog w) (A.deeper (envOfC name scope L a cd)) (handleBy (.ref e) (envOfC name scope L a cd) (.ExceptHandler (some (.Name (Str.ofString "KeyError") np)) (some n) (b₀ :: suite) pos :: rest)) Q E s₃) E s₂) E s' := by
  obtain ⟨B, t, xt, hst, hEr, hfl, hnew, htup, hsm⟩ := U
  rw [frs_one (envOfC name scope L a cd) (L := L) rfl] at hst
  have hLb : base.get? L = none := Heap.get?_none_of_le F.above
  have hB : base.StaysIn B := fun b o q => hst b o (hideAll_get _ (F.keep b o q) fun hm => by
    rcases List.mem_append.mp hm with hm | hm
    · rw [(hS b hm).1] at q; cases q
    · rw [List.mem_singleton.mp hm, hLb] at q; cases q)
  have hl : ∀ q ∈ news, B.get? q.1 = some q.2 ∧ base.get? q.1 = none := fun q hq => by
    refine ⟨hst _ _ (hideAll_get _ (N q hq).1 fun hm => ?_), (N q hq).2.2⟩
    rcases List.mem_append.mp hm with hm | hm
    · exact hN q hq hm
    · exact (N q hq).2.1 (List.mem_singleton.mp hm)
  have hL : B.get? L = none := by
    obtain ⟨_, ⟨L', _, hf, hn', _⟩, _⟩ := hfl.2.2.1
    obtain rfl : L = L' := Option.some.inj hf
    exact hn'
  have heB : B.get? e = none := hfl.2.1
  have FS : Fr base L (hideAll h S) m := ⟨F.ns.at' fun o e => hideAll_get _ e fun hm => (hS _ hm).2 rfl, fun b o e => hideAll_get _ (F.keep b o e) (fun hm => by rw [(hS b hm).1] at e; cases e), F.above⟩
  refine fly_next (Around.frames_deeper K.stack) rfl hfl fun h₄ hheld₄ hsm₄ => ?_
  refine fly_lands hheld₄ fun h₅ hheld hsm₅' => ?_
  have hsm₅ := hsm₄.trans hsm₅'
  have hheld' := Flies.lower hB hheld
  have F₅ := FS.of_stays hheld'.1 (hsm.trans hsm₅)
  obtain ⟨ob, _, hob, hobc, _⟩ := hheld'.there
  have TR := T
  refine wpAny_handleBy_builtin_as (X := "KeyError") (T := "KeyError") (b := true) kr_isExc_KeyError kr_notTuple_KeyError (by rw [isSubtype_type]; kernel_rfl)
    (Calls.Name_function_global hk hx (Calls.loadGlobal_builtin (env := envOfC name scope L a cd) (T.g.keeps F₅.keep) (T.free _ (by decide +kernel) h2 h3 h4 h4c) (T.b.keeps F₅.keep) ((T.builtins _ (by decide +kernel)).trans PyProof.Rows.Boot.«KeyError») ⟨rfl, ⟨ob, hob, hobc⟩, ?_⟩) (by decide))
  refine fly_lands hheld fun h₆ hfl₆ hsm₆ => ?_
  have hfl₆' := Flies.lower hB hfl₆
  have F₆ := FS.of_stays hfl₆'.1 ((hsm.trans hsm₅).trans hsm₆)
  obtain ⟨oe, ws, hoe, hoec, hoed, hoe0⟩ := hfl₆'.there
  obtain ⟨ot, nt, hot, hotc, hotd⟩ := (htup.of_slots hsm₅).of_slots hsm₆
  have N₆ := News.more F₆ (News.more F₆ News.nil hot (fun es n q => by rw [hotd] at q; cases q) (fresh_of_stays hB hnew)) hoe (fun es n q => by rw [hoed] at q; cases q) hfl₆'.2.1
  have Nl : News base L h₆ news := fun q hq => ⟨hfl₆.1 _ _ (hl q hq).1, (fun z => by have := (hl q hq).1; rw [z, hL] at this; cases this), (hl q hq).2⟩
  refine wpAny_storeName_local hlo F₆.ns (fun h₇ hn₇ hs₇ => ?_) (by show (scope.kind == .class || (scope.kind == .module && L != mainGlobals)) = false; rw [hk]; rfl)
  have N₇ : News base L h₆ ((e, oe) :: (t, ot) :: news) := fun q hq => by
    rcases List.mem_cons.mp hq with rfl | hq
    · exact N₆ _ (.head _)
    · rcases List.mem_cons.mp hq with rfl | hq
      · exact N₆ _ (.tail _ (.head _))
      · exact Nl q hq
  exact k h₇ _ t xt oe ot ws nt (F₆.set hn₇ hs₇) (N₇.set hs₇) hoec hoed hoe0 hotc (by simpa using hotd) ⟨B, hEr, fun b o q => hs₇.extBut b o (fun (z : b = L) => by rw [z, hL] at q; cases q) (hfl₆.1 b o q), hst, heB, hnew⟩
end
end Mine
end -- W6
section -- W7
open PySem PySem.W PyProof.Rows PySem.Calls PySem.Spec
set_option maxHeartbeats 8000000
namespace Mine
variable {w : World} {base : Heap} {p : Program} {loose : List Str} {mean : ExcName → Option Value} {mg mb : Str → Option Value}
/-! one turn of law's last loop: the try -/
local macro_rules | `(tactic| walk_at "nm val") => `(tactic| first | assumption | rfl | exact Mine.up_ne (by assumption) (by decide) | exact Mine.up_ne (Mine.up_ne (by assumption) (by decide)) (by decide))
local macro_rules | `(tactic| walk_at "lm") => `(tactic| first | assumption | exact List.Mem.tail _ (by assumption) | exact List.Mem.tail _ (List.Mem.tail _ (by assumption)) | exact List.Mem.tail _ (List.Mem.tail _ (List.Mem.tail _ (by assumption))))
local macro_rules | `(tactic| walk_at "eval Name") => `(tactic| first
  | (name_kind "local"; (rename Fr _ _ _ _ => F'); with_unfolding_all refine Mine.ldC F' (by walk_at "nm val") ?_)
  | (name_kind "cell"; (rename News _ _ _ _ => N'); with_unfolding_all refine Mine.ldCe N' (by rfl) (by walk_at "lm") (by assumption) ?_))
local macro_rules | `(tactic| walk_at "subscriptTail Name Constant ref int") => `(tactic| refine Mine.Stop.mk ?_)
local macro_rules | `(tactic| walk_at "eval Lambda") => `(tactic| refine Mine.Stop.mk ?_)
local macro_rules | `(tactic| walk_at "call ref") => `(tactic| ((with_reducible show wpAny _ _ (call (Value.ref _) _ _) _ _ _); refine Mine.Stop.mk ?_))
local macro_rules | `(tactic| walk_at "callWith ref") => `(tactic| (refine callWith_F (Mine.FnAt_keeps (by assumption) (Fr.keep (by assumption))) ?_))
local macro_rules | `(tactic| walk_at "unpackItems ref") => `(tactic| (k_here; first | (refine unpackItemsN_ (by k_asm) (by k_asm) (by kun_tup) (by assumption) (by rfl) ?_) | (refine Mine.unpackItemsH_ (by k_asm) (by k_asm) (by kun_tup) rfl (by repeat' (first | exact List.Mem.head _ | apply List.Mem.tail)) (by assumption) (Mine.Sees.none (by assumption)) (by rfl) ?_); intro h' F' N'; (try k_sweep)))
local macro_rules | `(tactic| walk_at "getAttr ref true") => `(tactic| refine Mine.Stop.mk ?_)
theorem Sees.none {t : Addr} {vs : Array Value} (h : Sees t vs) : vs[2]? = some Value.none := h.2
theorem excAttr_KeyError : ExcAttrFacts "KeyError" where
  ga := .of (owner := "BaseException") (n := "__getattribute__") (by rw [typeLookup_type, builtinLookup_eq_fast]; kernel_rfl) (by decide +kernel) (by decide +kernel) (by decide +kernel)
    (by first | exact .inl (by decide +kernel) | exact .inr (by decide +kernel)) (by rw [isSubtype_type]; kernel_rfl)
  lkArgs := by rw [typeLookup_type, builtinLookup_eq_fast]; kernel_rfl
  sub := by rw [isSubtype_type]; kernel_rfl
theorem name_goesC {M : Model} {A : Around} {E : Value → Shared → Prop} {s : Shared} {name : Str} {scope : Scope} {L a : Addr} {cd : Value} {h₀ : Heap} {m : Str → Option Value} {news : List (Addr × Obj)} {n : Str} {pos : Pos} {Q : Unit → Shared → Prop} (F : Fr h₀ L s.heap m) (N : News h₀ L s.heap news)
    (h : ∀ h' v, Fr h₀ L h' (fun x => if x = n then v else m x) → News h₀ L h' news → Q () { s with heap := h', toks := s.toks + 1 })
    (hk : scope.kind = .function := by rfl) (hl : (envOfC name scope L a cd).kindOf n = some .local := by rfl) :
    wpAny M A (do bindName (envOfC name scope L a cd) n .none; unbindBehindTheSuite (envOfC name scope L a cd) n pos) Q E s :=
  wpAny_nameGoes_keeps hl F.ns (by show (scope.kind == .class || (scope.kind == .module && L != mainGlobals)) = false; rw [hk]; rfl) fun h' v hn hs => h h' v (F.set hn hs) (N.set hs)
structure KeyFree (p : Program) (loose : List Str) : Prop where
  h2 : (Str.ofString "KeyError") ∉ loose
  h3 : (Str.ofString "KeyError") ∉ (recsOf p).map (·.name)
  h4 : (Str.ofString "KeyError") ∉ (litsOf p).map (·.1)
  h4c : (Str.ofString "KeyError") ∉ (clssOf p loose).map (·.name)
noncomputable abbrev tup3 (a b c : Addr) : Obj := ⟨.type "tuple", none, .seq #[.ref a, .ref b, .ref c] 0, #[]⟩
/-- what the try's turn starts from -/
structure TryIn (w : World) (base h : Heap) (L SH KN T G AR : Addr) (oT : Obj) (arvs : List Value) (c : Nat) (f : Str → Option Value) (kn : Str → Option (List Str)) (stuffK led : List (Addr × Obj)) : Prop where
  co : ∃ co, (L + 7, co) ∈ led ∧ co.data = .cell (some (.ref SH))
  sh : (SH, tup3 KN T G) ∈ led
  t : (T, oT) ∈ led
  td : oT.IsDictOf (strKind PySem.Challenge.pw_dw0016_02 w) []
  g : (G, W.listOf (List.toArray []) 0) ∈ led
  ar : (AR, W.listOf (List.toArray arvs) c) ∈ led
  c38 : CodeT 38 7 4 convQual h
  c50 : CodeT 50 23 14 wayQual h
  c62 : TabT 62 lamQual h
  l38 : 38 < L ∧ 50 < L ∧ 62 < L
  up : L + 7 < T ∧ T < G ∧ G < SH
  sK : ∀ q ∈ stuffK, q ∈ led ∧ q.1 ≠ T ∧ q.1 ≠ G ∧ q.1 ≠ 38 ∧ q.1 ≠ 50 ∧ q.1 ≠ 62
  arne : AR ≠ T ∧ AR ≠ G ∧ L < AR
  known : ∀ H, HoldsAll stuffK H → Known w H KN f kn
  sysT : (T == sysModules) = false
theorem rec_but {h h' : Heap} {c : Addr} {q q' : Str} (kb : KeepBut [62] h h') (H : TabT 62 q h) (r : h.CodeRec (.ref c) q') : h'.CodeRec (.ref c) q' :=
  let ⟨_, a, b, _⟩ := H; codeRec_but r kb fun hm => codeRec_ne r a (triples_one b) (List.mem_singleton.mp hm)
theorem codeT_but {P : Addr} {a b : Int} {q q' : Str} {h h' : Heap} (kb : KeepBut [62] h h') (H : TabT 62 q' h) (hP : P ≠ 62) (c : CodeT P a b q h) : CodeT P a b q h' :=
  let ⟨_, x, y, _⟩ := H; c.but kb (fun hm => hP (List.mem_singleton.mp hm)) fun c r hm => codeRec_ne r x (triples_one y) (List.mem_singleton.mp hm)
noncomputable abbrev Ex3 (f0 f1 f2 c SH : Addr) (h : Heap) : Prop := LamAt 0 f0 c SH h ∧ LamAt 1 f1 c SH h ∧ LamAt 2 f2 c SH h
noncomputable def offS (T G : Addr) : List Addr := [T, G, 38, 50, 62]
section
variable {A : Around} {s : Shared} {h : Heap} {L fa SH KN T G AR : Addr} {tk c : Nat} {m : Str → Option Value} {led stuffK : List (Addr × Obj)} {E : Value → Shared → Prop} {Q : Flow → Shared → Prop} {oT : Obj} {arvs : List Value} {names : List Str} {oa ok : Option Str} {va vk : Value} {f : Str → Option Value} {kn : Str → Option (List Str)} {bv D : Str → Int} {rk : Str → Nat}
theorem lw_try (bs : Base1 w base p loose mean mg mb) (C50 : CodeHd base 54 50) (C62 : CodeHd base 64 62) (b50 : base.get? 50 = none) (b62 : base.get? 62 = none) (kf : KeyFree p loose) (B : Below A base [] base) (hh : A.handled = none) (hroom : A.depth + 560 < recursionLimit) (hu : A.units + 9000 < cLine)
    (F : Fr base L h m) (N : News base L h led) (I : TryIn w base h L SH KN T G AR oT arvs c f kn stuffK led) (harvs : StrsAre arvs names) (hlen : names.length ≤ 100) (hva : VarIs va oa) (hvk : VarIs vk ok) (hnl : ∀ n ∈ favNames names oa ok, n.length ≤ 100 ∧ rk n < 67)
    (hD : ∀ n, -(2 ^ 100) < D n ∧ D n < 2 ^ 100) (hr : ∀ n as, kn n = some as → ∀ a ∈ as, rk a < rk n) (hcell : ∀ n as, kn n = some as → n ∈ cellNames) (hclean : ∀ n as, kn n = some as → ∀ a ∈ as, Clean a ∧ a.length ≤ 100) (hdue : ∀ n as, kn n = some as → D n = bv n + (as.map D).sum) (hbv : ∀ H, HoldsAll stuffK H → ∀ n as, kn n = some as → ∃ tup al t vs, f n = some (.ref tup) ∧ H.IsTuple tup #[.ref al, .int (bv n) t] ∧ H.IsList al (List.toArray vs) ∧ StrsAre vs as)
    (ma : m (Str.ofString "args") = some (.ref AR)) (mva : m (Str.ofString "varargs") = some va) (mvk : m (Str.ofString "varkw") = some vk)
    (k1 : ∀ h' tk' m' led' x' tt oT' kvs vs lc cod, foldV (vis kn 67) (favNames names oa ok) [] = .ok x' → Fr base L h' m' → News base L h' ((T, oT') :: (G, W.listOf (List.toArray vs) lc) :: (cod ++ led')) → (∀ q ∈ led, q.1 ∉ offS T G → q ∈ led') → OwnSt w D T G base x' oT' kvs vs cod → TabT 62 lamQual h' → (∀ y, y ≠ Str.ofString "told" → y ≠ Str.ofString "missing" → m' y = m y) →
      m' (Str.ofString "told") = some (.str (Str.ofString "(" ++ Str.join (Str.ofString ", ") (pieces D names oa ok) ++ Str.ofString ")") tt) → Q .next { s with heap := h', toks := tk' })
    (k2 : ∀ h' tk' m' led' x' y yt a ot nt oT' kvs vs lc cod, foldV (vis kn 67) (favNames names oa ok) [] = .error (x', y) → Fr base L h' m' → News base L h' ((T, oT') :: (G, W.listOf (List.toArray vs) lc) :: (cod ++ led')) → (∀ q ∈ led, q.1 ∉ offS T G → q ∈ led') → OwnSt w D T G base x' oT' kvs vs cod → TabT 62 lamQual h' → (∀ z, z ≠ Str.ofString "told" → z ≠ Str.ofString "missing" → z ≠ Str.ofString "error" → m' z = m z) →
      m' (Str.ofString "missing") = some (.ref a) → (a, ot) ∈ led' → ot.cls = .type "tuple" → ot.data = .seq #[Value.str y yt] nt → Q .next { s with heap := h', toks := tk' }) :
    wpAny (model PySem.Challenge.pw_dw0016_02 w) (A.deeper (lwEnv L fa (.ref 64))) (exec (nth (stLoopB lwFor) 1) (lwEnv L fa (.ref 64))) Q E { s with heap := h, toks := tk } := by
  have X := bs.K
  have Tp := bs.T
  obtain ⟨co7, e7, d7⟩ := I.co
  have hfn : FnAt 43 base := ⟨_, _, _, _, bs.K _ _ (by k_is)⟩
  dsimp only [Mine.lwEnv]
  conv in (occs := *) (Mine.stScope Mine.lwStmt) => all_goals whnf
  conv in (nth (stLoopB lwFor) 1) => whnf
  refine wpAny_Try_except ?_
  k_steps
  show wpAny _ _ (subscriptTail _ _ _ _) _ _ _
  refine item_tupleT (l := [.ref KN, .ref T, .ref G]) ⟨_, (News.get (by assumption) I.sh), rfl, _, rfl⟩ (by decide) (by decide) rfl rfl ?_
  have h62L : 62 ≠ L := Nat.ne_of_lt I.l38.2.2
  k_steps
  show wpAny _ _ (eval _ _) _ _ _
  rename Fr _ _ _ _ => F0
  refine kla_eval rfl ?_
  refine mk_lamG (qual := lamQual) F0 Tp C62 rfl rfl b62 h62L I.c62 rfl ?_
  intro f0 c0 ctv0 doc0 h1 tk1 kb1 F1 lt1 g1 ge1 r1 T1
  rename News _ _ _ _ => N1
  have K1 : ∀ q ∈ led, q.1 ≠ 62 → h1.get? q.1 = some q.2 := fun q hq hn => kb1 _ _ (fun hm => hn (List.mem_singleton.mp hm)) (N1 q hq).1
  have hw1 : h.objs.size ≤ f0 := ge1
  have hLh : L < h.objs.size := F0.ns.lt
  have Nold := N1
  have hne : ∀ q ∈ led, q.1 ≠ L ∧ base.get? q.1 = none := fun q hq => (N1 q hq).2
  clear F0 N1
  k_steps
  show wpAny _ _ (eval _ _) _ _ _
  rename Fr _ _ _ _ => F1
  refine kla_eval rfl ?_
  refine mk_lamG (qual := lamQual) F1 Tp C62 rfl rfl b62 h62L T1 rfl ?_
  intro f1 c1 ctv1 doc1 h2 tk2 kb2 F2 lt2 g2 ge2 r2 T2
  k_steps
  show wpAny _ _ (eval _ _) _ _ _
  rename Fr _ _ _ _ => F2
  refine kla_eval rfl ?_
  refine mk_lamG (qual := lamQual) F2 Tp C62 rfl rfl b62 h62L T2 rfl ?_
  intro f2 c2 ctv2 doc2 h3 tk3 kb3 F3 lt3 g3 ge3 r3 T3
  k_steps
  show wpAny _ _ (call _ _ _) _ _ _
  have K3 : ∀ q ∈ led, q.1 ≠ 62 → h3.get? q.1 = some q.2 := fun q hq hn => kb3 _ _ (fun hm => hn (List.mem_singleton.mp hm)) (kb2 _ _ (fun hm => hn (List.mem_singleton.mp hm)) (K1 q hq hn))
  have l62 := I.l38.2.2
  have hT := hne _ I.t
  have hG := hne _ I.g
  have f062 : 62 < f0 := Nat.lt_of_lt_of_le (Nat.lt_trans l62 hLh) hw1
  have f01 : f0 < f1 := lt2 _ _ g1
  have f12 : f1 < f2 := lt3 _ _ g2
  have n62 : ∀ {b : Addr}, 62 < b → b ∉ [62] := fun hb hm => Nat.ne_of_gt hb (List.mem_singleton.mp hm)
  have g1' := kb3 _ _ (n62 f062) (kb2 _ _ (n62 f062) g1)
  have g2' := kb3 _ _ (n62 (Nat.lt_trans f062 f01)) g2
  have r1' := rec_but kb3 T2 (rec_but kb2 T1 r1)
  have r2' := rec_but kb3 T2 r2
  have c38 := codeT_but kb3 T2 (by decide) (codeT_but kb2 T1 (by decide) (codeT_but kb1 I.c62 (by decide) I.c38))
  have c50 := codeT_but kb3 T2 (by decide) (codeT_but kb2 T1 (by decide) (codeT_but kb1 I.c62 (by decide) I.c50))
  have tne : ∀ {b : Addr}, L < b → b ≠ 62 := fun hb => Nat.ne_of_gt (Nat.lt_trans l62 hb)
  have lLT : L < T := Nat.lt_of_le_of_lt (Nat.le_add_right L 7) I.up.1
  have lLG := Nat.lt_trans lLT I.up.2.1
  have lLS := Nat.lt_trans lLG I.up.2.2
  have hTf : T < f0 := lt1 _ _ (News.get Nold I.t)
  have hGf : G < f0 := lt1 _ _ (News.get Nold I.g)
  have hs3 : Sh w D T G [] h3 := ⟨⟨oT, [], K3 _ I.t (tne lLT), I.td, KvInts.nil D⟩, ⟨[], 0, K3 _ I.g (tne lLG), .nil⟩, c38, c50⟩
  have hSb : ∀ b ∈ shS T G, base.get? b = none ∧ b ≠ L := by
    refine List.forall_mem_cons.mpr ⟨⟨hT.2, hT.1⟩, List.forall_mem_cons.mpr ⟨⟨hG.2, hG.1⟩, List.forall_mem_cons.mpr ⟨⟨bs.none38, Nat.ne_of_lt I.l38.1⟩, List.forall_mem_cons.mpr ⟨⟨b50, Nat.ne_of_lt I.l38.2.1⟩, fun _ h => nomatch h⟩⟩⟩⟩
  have hbL : base.get? L = none := Heap.get?_none_of_le F3.above
  have stB : base.StaysIn (hideAll h3 (L :: shS T G)) := fun b o e => hideAll_get _ (F3.keep b o e) fun hm => by
    rcases List.mem_cons.mp hm with rfl | hm
    · rw [hbL] at e; cases e
    · rw [(hSb b hm).1] at e; cases e
  have stH : (hideAll h3 (L :: shS T G)).StaysIn h3 := fun b o e => of_hideAll _ e
  have bs' : Base1 w (hideAll h3 (L :: shS T G)) p loose mean mg mb := ⟨bs.K.keeps stB, bs.T.keeps stB, bs.C.keeps stB, hideAll_none _ (.tail _ (.tail _ (.tail _ (.head _))))⟩
  have hb' : ∀ b ∈ shS T G, (hideAll h3 (L :: shS T G)).get? b = none := fun b hb => hideAll_none _ (.tail _ hb)
  have nin : ∀ {b : Addr}, b ≠ T → b ≠ G → b ≠ 38 → b ≠ 50 → b ∉ shS T G := fun h1 h2 h3 h4 hm => by
    simp only [shS, List.mem_cons, List.not_mem_nil, or_false] at hm
    rcases hm with h | h | h | h
    · exact h1 h
    · exact h2 h
    · exact h3 h
    · exact h4 h
  have HK : HoldsAll stuffK (hideAll h3 (L :: shS T G)) := fun q hq => by
    obtain ⟨a1, a2, a3, a4, a5, a6⟩ := I.sK q hq
    exact hideAll_get _ (K3 q a1 a6) fun hm => (List.mem_cons.mp hm).elim (fun e => (hne q a1).1 e) (nin a2 a3 a4 a5)
  have big : ∀ {b : Addr}, L < b → b ≠ 38 ∧ b ≠ 50 := fun hb => ⟨Nat.ne_of_gt (Nat.lt_trans I.l38.1 hb), Nat.ne_of_gt (Nat.lt_trans I.l38.2.1 hb)⟩
  have Kn := I.known _ HK
  have SI : SheetIs w (hideAll h3 (L :: shS T G)) SH KN T G f kn bv D := ⟨⟨_, hideAll_get _ (K3 _ I.sh (tne lLS)) fun hm => (List.mem_cons.mp hm).elim (fun e => Nat.ne_of_gt lLS e) (nin (Nat.ne_of_gt (Nat.lt_trans I.up.2.1 I.up.2.2)) (Nat.ne_of_gt I.up.2.2) (big lLS).1 (big lLS).2), rfl, _, rfl⟩,
    Kn.map, Kn.sys, I.sysT, hcell, Kn.incl, hbv _ HK, Kn.kno, fun n as hk => ⟨Kn.few n as hk, hclean n as hk⟩, hdue⟩
  have nm : ∀ n ∈ favNames names oa ok, ∀ x t, Calls PySem.Challenge.pw_dw0016_02 w (hideAll h3 (L :: shS T G)) (shS T G) (8 * 67) (100 * 67) (Sh w D T G x) (.ref 55) [.ref SH, .str n t] [] (TellOk w D T G Str.empty n (closeR kn 67 n x)) (TellEr w D T G (closeR kn 67 n x)) := fun n hn x t => nameT bs' (C50.keeps stB) hb' SI hD hr 67 n x t (hnl n hn).2 (hnl n hn).1
  have fin : ∀ {b : Addr}, f0 ≤ b → b ∉ shS T G := fun hb => nin (Nat.ne_of_gt (Nat.lt_of_lt_of_le hTf hb)) (Nat.ne_of_gt (Nat.lt_of_lt_of_le hGf hb)) (Nat.ne_of_gt (Nat.lt_of_lt_of_le (Nat.lt_trans I.l38.1 (Nat.lt_of_lt_of_le hLh hw1)) hb)) (Nat.ne_of_gt (Nat.lt_of_lt_of_le (Nat.lt_trans I.l38.2.1 (Nat.lt_of_lt_of_le hLh hw1)) hb))
  have n7 : L + 7 ∉ shS T G := nin (Nat.ne_of_lt I.up.1) (Nat.ne_of_lt (Nat.lt_trans I.up.1 I.up.2.1)) (big (Nat.lt_add_of_pos_right (by decide))).1 (big (Nat.lt_add_of_pos_right (by decide))).2
  have cel : (hideAll h3 (shS T G)).IsCell (L + 7) (some (.ref SH)) := ⟨co7, hideAll_get _ (K3 _ e7 (tne (Nat.lt_add_of_pos_right (by decide)))) n7, d7⟩
  have hex : LamAt 0 f0 (L + 7) SH (hideAll h3 (shS T G)) ∧ LamAt 1 f1 (L + 7) SH (hideAll h3 (shS T G)) ∧ LamAt 2 f2 (L + 7) SH (hideAll h3 (shS T G)) :=
    ⟨⟨_, _, _, _, hideAll_get _ g1' (fin (Nat.le_refl _)), cel, codeRec_hidden r1' (hs3.codeNot r1')⟩, ⟨_, _, _, _, hideAll_get _ g2' (fin (Nat.le_of_lt f01)), cel, codeRec_hidden r2' (hs3.codeNot r2')⟩, ⟨_, _, _, _, hideAll_get _ g3 (fin (Nat.le_of_lt (Nat.lt_trans f01 f12))), cel, codeRec_hidden r3 (hs3.codeNot r3)⟩⟩
  have CC := fav2 bs' (T := T) (G := G) (D := D) (Ex := Ex3 f0 f1 f2 (L + 7) SH) (aArgs := AR) (fa := f0) (fva := f1) (fvk := f2) (va := va) (vk := vk) (vs := arvs) (names := names) (oa := oa) (ok := ok) (x := []) (dv := 8 * 67 + 1) (uv := 100 * 67 + 20) (cl := closeR kn 67) (pos := [.ref AR, va, vk, .ref T, .ref f0]) (kw := [(Str.ofString "formatvarargs", .ref f1), (Str.ofString "formatvarkw", .ref f2)])
    I.sysT hb' (fun _ _ x k => ⟨x.1.keeps k, x.2.1.keeps k, x.2.2.keeps k⟩) hva hvk harvs hlen (fun n hn => (hnl n hn).1) hD (fun _ x => x.1.fn) (fun _ _ _ x => x.2.1.fn) (fun _ _ _ x => x.2.2.fn)
    (fun n hn x t => lamT0 bs' (Ex := Ex3 f0 f1 f2 (L + 7) SH) (cell := L + 7) (res := closeR kn 67 n) hb' (fun _ x => x.1) (hnl n (List.mem_append_left _ (List.mem_append_left _ hn))).1 (nm n (List.mem_append_left _ (List.mem_append_left _ hn)) x))
    (fun n hn x t => lamT1 bs' (Ex := Ex3 f0 f1 f2 (L + 7) SH) (cell := L + 7) (res := closeR kn 67 n) hb' (fun _ x => x.2.1) (hnl n (by rw [hn]; simp [favNames])).1 (nm n (by rw [hn]; simp [favNames]) x))
    (fun n hn x t => lamT2 bs' (Ex := Ex3 f0 f1 f2 (L + 7) SH) (cell := L + 7) (res := closeR kn 67 n) hb' (fun _ x => x.2.2) (hnl n (by rw [hn]; simp [favNames])).1 (nm n (by rw [hn]; simp [favNames]) x)) ⟨rfl, .inr rfl⟩
  have arS : AR ∉ shS T G := nin I.arne.1 I.arne.2.1 (big I.arne.2.2).1 (big I.arne.2.2).2
  have arL : (hideAll h3 (shS T G)).IsList AR (List.toArray arvs) := ⟨_, hideAll_get _ (K3 _ I.ar (tne I.arne.2.2)) arS, rfl, _, rfl⟩
  refine use_callsB CC B F3 stH (hideAll_none _ (.head _)) rfl rfl (fun b hb => (hSb b hb).2) ⟨arL, hex, hs3⟩ hh (by omega) (by omega) ?_ ?_
  · rintro r h4 tk4 k4 ⟨x', tt, hfold, rfl, hs4⟩
    have F4 := fr_but F3 k4 hSb
    obtain ⟨oT4, kvs4, vs4, lc4, cod4, N4, O4⟩ := hs4.own F4 hSb
    have T4 : TabT 62 lamQual h4 := T3.but k4 (nin (Nat.ne_of_lt (Nat.lt_trans l62 lLT)) (Nat.ne_of_lt (Nat.lt_trans l62 lLG)) (by decide) (by decide)) fun c r => hs3.codeNot r
    obtain ⟨cr62, N62, w62, p62⟩ := T4.own F4 b62 h62L
    have NO : News base L h4 (led.filter fun q => decide (q.1 ∉ offS T G)) := fun q hq => by
      obtain ⟨a1, a2⟩ := List.mem_filter.mp hq
      have a3 : q.1 ∉ offS T G := by simpa using a2
      simp only [offS, List.mem_cons, List.not_mem_nil, or_false, not_or] at a3
      exact ⟨k4 _ _ (nin a3.1 a3.2.1 a3.2.2.1 a3.2.2.2.1) (K3 q a1 a3.2.2.2.2), hne q a1⟩
    have N5 : News base L h4 ((T, oT4) :: (G, W.listOf (List.toArray vs4) lc4) :: (cod4 ++ (cr62 ++ led.filter fun q => decide (q.1 ∉ offS T G)))) := news_sub (news_append N4 (news_append N62 NO)) fun z hz => hz
    have mm := ma
    clear N4 N62 NO F3 hs3 CC SI nm bs' hex cel arL Nold
    k_steps
    rename Fr _ _ _ _ => F6
    rename News _ _ _ _ => N6
    have N7 := news_sub (b := (T, oT4) :: (G, W.listOf (List.toArray vs4) lc4) :: (cod4 ++ (cr62 ++ led.filter fun q => decide (q.1 ∉ offS T G)))) N6 fun z hz => by first | exact hz | exact List.Mem.tail _ hz
    exact k1 _ _ _ _ x' _ oT4 kvs4 vs4 lc4 cod4 hfold F6 N7 (fun q hq ho => List.mem_append_right _ (List.mem_filter.mpr ⟨hq, by simpa using ho⟩)) O4 (p62 _ F6.keep fun z hz => (N7 z (.tail _ (.tail _ (List.mem_append_right _ (List.mem_append_left _ hz))))).1) (fun y q1 q2 => by simp only [if_neg q1, if_neg q2]) rfl
  · intro y e h4 tk4 U
    obtain ⟨cr62, N62, w62, p62⟩ := T3.own F3 b62 h62L
    have NO : News base L h3 (led.filter fun q => decide (q.1 ∉ offS T G)) := fun q hq => by
      obtain ⟨a1, a2⟩ := List.mem_filter.mp hq
      have a3 : q.1 ∉ offS T G := by simpa using a2
      simp only [offS, List.mem_cons, List.not_mem_nil, or_false, not_or] at a3
      exact ⟨K3 q a1 a3.2.2.2.2, hne q a1⟩
    have hN : ∀ q ∈ cr62 ++ led.filter (fun q => decide (q.1 ∉ offS T G)), q.1 ∉ shS T G := fun q hq => by
      rcases List.mem_append.mp hq with hq | hq
      · rcases w62 q hq with h | ⟨qq, fv, t, u1, u2⟩
        · rw [h]; exact nin (Nat.ne_of_lt (Nat.lt_trans l62 lLT)) (Nat.ne_of_lt (Nat.lt_trans l62 lLG)) (by decide) (by decide)
        · exact hs3.codeNot (q := qq) ⟨q.1, q.2, fv, t, rfl, (N62 q hq).1, u1, u2⟩
      · have a3 : q.1 ∉ offS T G := by simpa using (List.mem_filter.mp hq).2
        simp only [offS, List.mem_cons, List.not_mem_nil, or_false, not_or] at a3
        exact nin a3.1 a3.2.1 a3.2.2.1 a3.2.2.2.1
    refine caught_S B F3 hSb (news_append N62 NO) hN U Tp ?_ kf.h2 kf.h3 kf.h4 kf.h4c
    rintro h5 tk5 t5 xt oe ot ws nt F5 N5 q1 q2 q3 q4 q5 ⟨Bh, ⟨x', hfe, hsB⟩, stB', _, _, _⟩
    obtain ⟨oT5, kvs5, vs5, lc5, cod5, N5', O5⟩ := (hsB.keeps stB').own F5 hSb
    have N6 : News base L h5 ((e, oe) :: (t5, ot) :: (T, oT5) :: (G, W.listOf (List.toArray vs5) lc5) :: (cod5 ++ (cr62 ++ led.filter fun q => decide (q.1 ∉ offS T G)))) := news_cons (N5 _ (.head _)) (news_cons (N5 _ (.tail _ (.head _))) (news_sub (news_append N5' (news_sub N5 fun z hz => .tail _ (.tail _ hz))) fun z hz => hz))
    clear N5 N5' N62 NO F3 hs3 CC SI nm bs' hex cel arL Nold U hsB stB'
    k_steps
    refine args_attr excAttr_KeyError (N6 _ (.head _)).1 q1 q2 q3.1 ?_
    k_steps
    rename Fr _ _ _ _ => F'
    rename News _ _ _ _ => N'
    refine unpackItemsH_ F' N' (by kun_tup) rfl (by repeat' (first | exact List.Mem.head _ | apply List.Mem.tail)) q2 q3.2 (by rfl) ?_
    intro h' F' N'
    k_steps
    rename Fr _ _ _ _ => F'
    rename News _ _ _ _ => N'
    refine name_goesC F' N' fun h₉ v₉ F₉ N₉ => ?_
    have N7 := news_sub (b := (T, oT5) :: (G, W.listOf (List.toArray vs5) lc5) :: (cod5 ++ ((t5, ot) :: (cr62 ++ led.filter fun q => decide (q.1 ∉ offS T G))))) N₉ fun z hz => by
      simp only [List.mem_cons, List.mem_append] at hz ⊢
      rcases hz with h | h | h | h | h | h <;> simp only [h, true_or, or_true]
    exact k2 _ _ _ _ x' y xt t5 ot nt oT5 kvs5 vs5 lc5 cod5 hfe F₉ N7 (fun q hq ho => .tail _ (List.mem_append_right _ (List.mem_filter.mpr ⟨hq, by simpa using ho⟩))) O5 (p62 _ F₉.keep fun z hz => (N7 z (.tail _ (.tail _ (List.mem_append_right _ (.tail _ (List.mem_append_left _ hz)))))).1) (fun z q1 q2 q3 => by simp only [if_neg q1, if_neg q2, if_neg q3]) (by rfl) (.head _) q4 q5
end
end Mine
end -- W7
section -- W8
open PySem PySem.W PyProof.Rows PySem.Calls PySem.Spec
set_option maxHeartbeats 8000000
namespace Mine
variable {w : World} {base : Heap} {p : Program} {loose : List Str} {mean : ExcName → Option Value} {mg mb : Str → Option Value}
/-! one turn of law's last loop: the sheet, the plain walk, what is compared -/
local macro_rules | `(tactic| walk_at "nm val") => `(tactic| first | assumption | rfl | exact Mine.up_ne (by assumption) (by decide) | exact Mine.up_ne (Mine.up_ne (by assumption) (by decide)) (by decide))
local macro_rules | `(tactic| walk_at "lm") => `(tactic| first | assumption | exact List.Mem.tail _ (by assumption) | exact List.Mem.tail _ (List.Mem.tail _ (by assumption)) | exact List.Mem.tail _ (List.Mem.tail _ (List.Mem.tail _ (by assumption))))
local macro_rules | `(tactic| walk_at "eval Name") => `(tactic| first
  | (name_kind "local"; (rename Fr _ _ _ _ => F'); with_unfolding_all refine Mine.ldC F' (by walk_at "nm val") ?_)
  | (name_kind "cell"; (rename News _ _ _ _ => N'); with_unfolding_all refine Mine.ldCe N' (by rfl) (by walk_at "lm") (by assumption) ?_))
local macro_rules | `(tactic| walk_at "storeName") => `(tactic| with_unfolding_all refine Mine.stopCell (by rfl) ?_)
local macro_rules | `(tactic| walk_at "call ref") => `(tactic| ((with_reducible show wpAny _ _ (call (Value.ref _) _ _) _ _ _); refine Mine.Stop.mk ?_))
/-- objects that a call made join the ledger -/
theorem news_join {h₀ h h' : Heap} {L : Addr} {m : Str → Option Value} {news fz : List (Addr × Obj)} (F : Fr h₀ L h m) (N : News h₀ L h' news) (hf : HoldsAll fz h') (hn : ∀ q ∈ fz, h.get? q.1 = none) : News h₀ L h' (fz ++ news) := by
  intro q hq
  rcases List.mem_append.mp hq with z | z
  · refine ⟨hf q z, fun e => ?_, ?_⟩
    · obtain ⟨oL, _, _, hL, _⟩ := F.ns
      rw [← e, hn q z] at hL
      cases hL
    · cases e : h₀.get? q.1 with
      | none => rfl
      | some o => have := F.keep _ _ e; rw [hn q z] at this; cases this
  · exact N q z
section
variable {A : Around} {s : Shared} {h : Heap} {L fa SH KN T G RO DU : Addr} {tk c : Nat} {m : Str → Option Value} {led : List (Addr × Obj)} {E : Value → Shared → Prop} {Q : Flow → Shared → Prop} {co3 co5 co7 : Obj} {v7 : Option Value} {rvs : List Value} {rows : List Str} {f : Str → Option Value} {kn : Str → Option (List Str)} {bv D : Str → Int} {rk : Str → Nat}
theorem lwb0 (X : (hd2.heap_39 w.params).In base) (T0 : Top p loose mean mg mb base) (B : Below A base [] base) (hh : A.handled = none) (hroom : A.depth + 560 < recursionLimit) (hu : A.units + 9000 < cLine)
    (F : Fr base L h m) (N : News base L h led) (mk : m (Str.ofString "known") = some (.ref KN)) (e7 : (L + 7, co7) ∈ led) (d7 : co7.data = .cell v7)
    (kk : ∀ h' tk' led' T G SH oT co', Fr base L h' m → News base L h' led' → Turned ((SH, tup3 KN T G) :: (G, W.listOf (List.toArray []) 0) :: (T, oT) :: led) led' (L + 7) co' → co'.data = .cell (some (.ref SH)) → oT.IsDictOf (strKind PySem.Challenge.pw_dw0016_02 w) [] → (T == sysModules) = false → (∀ q ∈ led, q.1 < T) → T < G → G < SH → Q .next { s with heap := h', toks := tk' }) :
    wpAny (model PySem.Challenge.pw_dw0016_02 w) (A.deeper (lwEnv L fa (.ref 64))) (exec (nth (stLoopB lwFor) 0) (lwEnv L fa (.ref 64))) Q E { s with heap := h, toks := tk } := by
  dsimp only [Mine.lwEnv]
  conv in (occs := *) (Mine.stScope Mine.lwStmt) => all_goals whnf
  conv in (nth (stLoopB lwFor) 0) => whnf
  k_steps
  rename Obj.IsDictOf (PySem.strKind _ _) _ [] => hT
  rename (_ == sysModules) = false => sT
  rename Fr _ _ _ _ => F₂
  rename News _ _ _ _ => N₂
  refine stCe F₂ N₂ rfl (.tail _ (.tail _ (.tail _ e7))) d7 fun h₅ co' led' F₅ N₅ Tu hd => ?_
  clear F₂ N₂
  k_steps
  rename Fr _ _ _ _ => F₆
  rename News _ _ _ _ => N₆
  exact kk _ _ led' _ _ _ _ co' F₆ N₆ Tu hd hT sT (by assumption) (by exact And.left (by assumption)) (by exact And.left (by assumption))
theorem lwb2 (bs : Base1 w base p loose mean mg mb) (X : (hd2.heap_39 w.params).In base) (T0 : Top p loose mean mg mb base) (B : Below A base [] base) (hh : A.handled = none) (hroom : A.depth + 560 < recursionLimit) (hu : A.units + 9000 < cLine)
    (F : Fr base L h m) (N : News base L h led) (mk : m (Str.ofString "known") = some (.ref KN)) (e5 : (L + 5, co5) ∈ led) (d5 : co5.data = .cell (some (.ref RO))) (hR : (RO, W.listOf (List.toArray rvs) c) ∈ led) (hrs : StrsAre rvs rows) (hrc : ∀ n ∈ rows, n ∈ cellNames) (hlen : rows.length ≤ 100) (hrk : ∀ n ∈ rows, rk n < 67) (h38 : 38 < L) (lR : L < RO)
    (hSI : ∀ H, (∀ q ∈ led, q.1 ≠ 38 → H.get? q.1 = some q.2) → SheetIs w H SH KN T G f kn bv D) (hr : ∀ n as, kn n = some as → ∀ a ∈ as, rk a < rk n)
    (kk : ∀ h' tk' m' led' DN vs c' gv d, Fr base L h' m' → News base L h' led' → (∀ q ∈ led, q ∈ led') → (DN, W.listOf (List.toArray vs) c') ∈ led' → StrsAre vs d → ((gv = .none ∧ foldV (vis kn 67) rows [] = .ok d) ∨ ∃ y yt, gv = .str y yt ∧ foldV (vis kn 67) rows [] = .error (d, y)) →
      m' (Str.ofString "done") = some (.ref DN) → m' (Str.ofString "gap") = some gv → (∀ z, z ≠ Str.ofString "done" → z ≠ Str.ofString "gap" → m' z = m z) → Q .next { s with heap := h', toks := tk' }) :
    wpAny (model PySem.Challenge.pw_dw0016_02 w) (A.deeper (lwEnv L fa (.ref 64))) (exec (nth (stLoopB lwFor) 2) (lwEnv L fa (.ref 64))) Q E { s with heap := h, toks := tk } := by
  dsimp only [Mine.lwEnv]
  conv in (occs := *) (Mine.stScope Mine.lwStmt) => all_goals whnf
  conv in (nth (stLoopB lwFor) 2) => whnf
  have hfn : FnAt 60 base := ⟨_, _, _, _, bs.K _ _ (by k_is)⟩
  k_steps
  show wpAny _ _ (call _ _ _) _ _ _
  rename Fr _ _ _ _ => F₂
  rename News _ _ _ _ => N₂
  have hbL : base.get? L = none := Heap.get?_none_of_le F₂.above
  have stB : base.StaysIn (hideAll h [L, 38]) := fun b o e => hideAll_get _ (F₂.keep b o e) fun hm => by
    rcases List.mem_cons.mp hm with rfl | hm
    · rw [hbL] at e; cases e
    · rw [List.mem_singleton.mp hm, bs.none38] at e; cases e
  have hold : ∀ q ∈ led, q.1 ≠ 38 → (hideAll h [L, 38]).get? q.1 = some q.2 := fun q hq hn => hideAll_get _ (N₂ q hq).1 fun hm => (List.mem_cons.mp hm).elim (N₂ q hq).2.1 fun e => hn (List.mem_singleton.mp e)
  have bs' : Base1 w (hideAll h [L, 38]) p loose mean mg mb := ⟨bs.K.keeps stB, bs.T.keeps stB, bs.C.keeps stB, hideAll_none _ (.tail _ (.head _))⟩
  have SI := hSI _ hold
  refine use_callsB (closedT bs' (g := h) SI hr ⟨_, hold _ hR (Nat.ne_of_gt (Nat.lt_trans h38 lR)), rfl, _, rfl⟩ hrs hrc hlen (k := 67) hrk) B F₂ (fun b o e => of_hideAll _ e) (hideAll_none _ (.head _)) rfl rfl (fun b hb => nomatch hb) (fun a o e => by rw [e]; rfl) hh (by omega) (by omega) ?_ (fun _ _ _ _ U => let ⟨_, _, _, _, e, _⟩ := U; e.elim)
  rintro r h₃ tk₃ k₃ ⟨t, l, vs, c', gv, u, d, rfl, ht0, hl0, ht, hl, hvs, hres⟩
  have st₃ : h.StaysIn h₃ := fun b o e => k₃ b o (fun m => nomatch m) e
  have F₃ := F₂.keeps st₃
  have N₃ : News base L h₃ ((t, (⟨.type "tuple", none, .seq #[.ref l, gv] u, #[]⟩ : Obj)) :: (l, W.listOf (List.toArray vs) c') :: led) := news_join (fz := [(t, _), (l, _)]) F₂ (N₂.keeps st₃) (List.forall_mem_cons.mpr ⟨ht, List.forall_mem_cons.mpr ⟨hl, fun _ h => nomatch h⟩⟩) (List.forall_mem_cons.mpr ⟨ht0, List.forall_mem_cons.mpr ⟨hl0, fun _ h => nomatch h⟩⟩)
  clear F₂ N₂ SI bs'
  k_steps
  show wpAny _ _ (assign _ _ _) _ _ _
  rename Fr _ _ _ _ => F₄
  rename News _ _ _ _ => N₄
  refine wpAny_assign_Tuple hh ⟨_, (N₄ _ (.head _)).1, rfl, _, rfl⟩ rfl rfl fun h₅ he₅ => ?_
  have st₅ : Heap.StaysIn _ h₅ := fun b o e => he₅ b o (Nat.ne_of_lt (Heap.lt_size e)) e
  have F₅ := F₄.keeps st₅
  have N₅ := N₄.keeps st₅
  clear F₄ N₄ st₅
  k_steps
  rename Fr _ _ _ _ => F₆
  rename News _ _ _ _ => N₆
  exact kk _ _ _ _ l vs c' gv d F₆ N₆ (fun q hq => .tail _ (.tail _ hq)) (.tail _ (.head _)) hvs hres rfl rfl (fun z q1 q2 => by simp only [if_neg q1, if_neg q2])
end
end Mine
end -- W8
section -- W9
open PySem PySem.W PyProof.Rows PySem.Calls PySem.Spec
set_option maxHeartbeats 8000000
namespace Mine
variable {w : World} {base : Heap} {p : Program} {loose : List Str} {mean : ExcName → Option Value} {mg mb : Str → Option Value}
/-! one turn of law's last loop: log and table compared -/
noncomputable def ifTest : Stmt → PySem.Expr
  | .If t _ _ _ => t
  | _ => default
noncomputable def boolNth (e : PySem.Expr) (i : Nat) : PySem.Expr := match e with
  | .BoolOp _ l _ => l.getD i default
  | e => e
noncomputable def cmpR (e : PySem.Expr) : PySem.Expr := match e with
  | .Compare _ _ (r :: _) _ => r
  | e => e
noncomputable def pairComp : PySem.Expr := callNth (cmpR (boolNth (ifTest (nth (stLoopB lwFor) 3)) 1)) 0
noncomputable def PairOut (s : Shared) (x : Str) (xt : Tok) (v : Value) (r : Value) (s₄ : Shared) : Prop := ∃ h' tk P, r = Value.ref P ∧ s₄ = { s with heap := h', toks := tk } ∧ s.heap.StaysIn h' ∧ s.heap.objs.size ≤ P ∧ h'.get? P = some (⟨.type "tuple", none, .seq #[.str x xt, v] 0, #[]⟩ : Obj)
section
local macro_rules | `(tactic| walk_at "eval Name") => `(tactic| first
  | (refine lcf_cell (by assumption) (by rfl) (List.Mem.tail _ (List.Mem.head _)) (by assumption) ?_ (by rfl) (by rfl))
  | (refine LCgL.ld_own (by assumption) (List.Mem.head _) (by assumption) (by assumption) ?_))
local macro_rules | `(tactic| walk_at "subscriptTail Name Name ref str") => `(tactic| refine Mine.Stop.mk ?_)
variable {A : Around} {E : Value → Shared → Prop} {s : Shared} {L C DU fa : Addr} {cd : Value} {m₃ : Str → Option Value} {co oC : Obj} {x : Str} {xt : Tok} {h₀ : Heap} {f : Str → Option Value} {v : Value}
theorem pair_elt (N : News h₀ L s.heap [(C, oC), (L + 3, co)]) (hC : LCg.NsObj oC m₃) (hco : co.data = .cell (some (.ref DU))) (hx : m₃ (Str.ofString "cell") = some (Value.str x xt))
    (hm : s.heap.MapOf (PySem.strKind PySem.Challenge.pw_dw0016_02 w) DU f) (hf : f x = some v) :
    wpAny (model PySem.Challenge.pw_dw0016_02 w) A (eval (compElt pairComp) (compEnvC (compScope pairComp) [(Str.ofString "due", L + 3)] C (lwEnv L fa cd)))
      (PairOut s x xt v) E s := by
  dsimp only [Mine.lwEnv]
  conv in (occs := *) (Mine.stScope Mine.lwStmt) => all_goals whnf
  conv in (occs := *) (compElt pairComp) => all_goals whnf
  conv in (occs := *) (compScope pairComp) => all_goals whnf
  refine wpAny_Tuple ?_
  k_steps
  refine dict_at hm hf ?_
  k_steps
  exact ⟨_, _, _, rfl, rfl, fun b o e => Heap.get?_push_of_some _ e, Nat.le_refl _, Heap.get?_push_size _ rfl⟩
end
local macro_rules | `(tactic| walk_at "nm val") => `(tactic| first | assumption | rfl | exact Mine.up_ne (by assumption) (by decide) | exact Mine.up_ne (Mine.up_ne (by assumption) (by decide)) (by decide))
local macro_rules | `(tactic| walk_at "lm") => `(tactic| first | assumption | exact List.Mem.tail _ (by assumption) | exact List.Mem.tail _ (List.Mem.tail _ (by assumption)) | exact List.Mem.tail _ (List.Mem.tail _ (List.Mem.tail _ (by assumption))))
local macro_rules | `(tactic| walk_at "eval Name") => `(tactic| first
  | (name_kind "local"; (rename Fr _ _ _ _ => F'); with_unfolding_all refine Mine.ldC F' (by walk_at "nm val") ?_)
  | (name_kind "cell"; (rename News _ _ _ _ => N'); with_unfolding_all refine Mine.ldCe N' (by rfl) (by walk_at "lm") (by assumption) ?_))
local macro_rules | `(tactic| walk_at "subscriptTail Name Constant ref int") => `(tactic| refine Mine.Stop.mk ?_)
local macro_rules | `(tactic| walk_at "compareOp NotEq ref ref") => `(tactic| refine Mine.Stop.mk ?_)
local macro_rules | `(tactic| walk_at "eval ListComp") => `(tactic| refine Mine.Stop.mk ?_)
local macro_rules | `(tactic| walk_at "call type:dict") => `(tactic| ((with_reducible show wpAny _ _ (call (Value.type _) _ _) _ _ _); refine Mine.Stop.mk ?_))
theorem pairs_of {prog : Program} {h : Heap} {D : Str → Int} : ∀ (d : List Str) (ys : List Value), ys.length = d.length → (∀ (i : Nat) (y : Str), d[i]? = some y → ∃ P t t', ys[i]? = some (.ref P) ∧ h.get? P = some (⟨.type "tuple", none, .seq #[.str y t, .int (D y) t'] 0, #[]⟩ : Obj)) →
    ∃ kvs, PairsIn (PySem.strKind prog w) h ys kvs ∧ KvRel D kvs d
  | [], [], _, _ => ⟨[], ⟨rfl, fun i k v e => by simp at e⟩, .nil⟩
  | y :: d, z :: ys, hl, hp => by
    obtain ⟨kvs, ⟨p1, p2⟩, q⟩ := pairs_of d ys (by simpa using hl) fun i x hx => hp (i + 1) x (by simpa using hx)
    obtain ⟨P, t, t', e1, e2⟩ := hp 0 y rfl
    refine ⟨(y, .int (D y) t') :: kvs, ⟨by simp [p1], fun i k v e => ?_⟩, .cons ⟨rfl, t', rfl⟩ q⟩
    cases i with
    | zero =>
      simp only [List.getElem?_cons_zero, Option.some.injEq, Prod.mk.injEq] at e
      obtain ⟨rfl, rfl⟩ := e
      exact ⟨P, .str y t, 0, e1, e2, strKind_is _ _ y t⟩
    | succ i => exact p2 i k v (by simpa using e)
theorem hits_of {A : Around} {s : Shared} {D : Str → Int} {kb : List (Str × Value)} {d' : List Str} (hb : KvRel D kb d') : ∀ (ka : List (Str × Value)) (d : List Str), KvRel D ka d → (∀ y ∈ d, y ∈ d') → KeqHits A s kb ka true
  | [], [], _, _ => .nil
  | (k, v) :: ka, n :: d, .cons ⟨e, t, ev⟩ r, hd => by
    dsimp only at e ev
    subst e ev
    obtain ⟨t', hv⟩ := (hb.at k).1 (hd k (.head _))
    have q := SeqAt.EqAt.int_int (A := A) (s := s) (D k) t (D k) t'
    rw [beq_self_eq_true] at q
    exact .hit (e := true) (b := true) hv q (hits_of hb ka d r fun y hy => hd y (.tail _ hy))
section
variable {A : Around} {s : Shared} {h : Heap} {L fa SH KN T G DN DU : Addr} {tk : Nat} {m : Str → Option Value} {led : List (Addr × Obj)} {E : Value → Shared → Prop} {Q : Flow → Shared → Prop} {co3 co7 oT oD : Obj} {lvs vs : List Value} {lc c' : Nat} {d : List Str} {kvs kvD : List (Str × Value)} {D : Str → Int}
theorem lwb3 (bs : Base1 w base p loose mean mg mb) (B : Below A base [] base) (hh : A.handled = none) (hroom : A.depth + 560 < recursionLimit) (hu : A.units + 9000 < cLine)
    (F : Fr base L h m) (N : News base L h led) (e7 : (L + 7, co7) ∈ led) (d7 : co7.data = .cell (some (.ref SH))) (hSH : (SH, tup3 KN T G) ∈ led) (hT : (T, oT) ∈ led) (hTd : oT.IsDictOf (PySem.strKind PySem.Challenge.pw_dw0016_02 w) kvs) (hkv : KvInts D kvs d) (sT : (T == sysModules) = false) (hG : (G, W.listOf (List.toArray lvs) lc) ∈ led) (hlv : StrsAre lvs d)
    (md : m (Str.ofString "done") = some (.ref DN)) (hDN : (DN, W.listOf (List.toArray vs) c') ∈ led) (hvs : StrsAre vs d) (e3 : (L + 3, co3) ∈ led) (d3 : co3.data = .cell (some (.ref DU))) (hDU : (DU, oD) ∈ led) (hDUd : oD.IsDictOf (PySem.strKind PySem.Challenge.pw_dw0016_02 w) kvD) (hD : ∀ y ∈ d, ∃ t, valueAt kvD y = some (.int (D y) t))
    (kk : ∀ h' tk' led', Fr base L h' m → News base L h' led' → (∀ q ∈ led, q ∈ led') → Q .next { s with heap := h', toks := tk' }) :
    wpAny (model PySem.Challenge.pw_dw0016_02 w) (A.deeper (lwEnv L fa (.ref 64))) (exec (nth (stLoopB lwFor) 3) (lwEnv L fa (.ref 64))) Q E { s with heap := h, toks := tk } := by
  have X := bs.K
  have Tp := bs.T
  dsimp only [Mine.lwEnv]
  conv in (occs := *) (Mine.stScope Mine.lwStmt) => all_goals whnf
  conv in (nth (stLoopB lwFor) 3) => whnf
  have hfew := hkv.few
  have hok : OkStrs d := ok_of hkv.sub
  k_steps
  show wpAny _ _ (subscriptTail _ _ _ _) _ _ _
  refine item_tupleT (l := [.ref KN, .ref T, .ref G]) ⟨_, (News.get (by assumption) hSH), rfl, _, rfl⟩ (by decide) (by decide) rfl rfl ?_
  k_steps
  show wpAny _ _ (compareOp _ _ _) _ _ _
  rename News _ _ _ _ => N₂
  refine ne_strs ⟨_, (N₂ _ hG).1, rfl, _, rfl⟩ ⟨_, (N₂ _ hDN).1, rfl, _, rfl⟩ hlv hvs hok hok (by show A.units + 3 + 64 < cLine; omega) ?_
  rw [decide_eq_true rfl]
  k_steps
  show wpAny _ _ (subscriptTail _ _ _ _) _ _ _
  refine item_tupleT (l := [.ref KN, .ref T, .ref G]) ⟨_, (News.get (by assumption) hSH), rfl, _, rfl⟩ (by decide) (by decide) rfl rfl ?_
  k_steps
  show wpAny _ _ (eval _ _) _ _ _
  rename Fr _ _ _ _ => F₂
  rename News _ _ _ _ => N₂
  have hvl := hvs.1
  refine comp_G (n := d.length) (P := fun i v => ∃ x t, d[i]? = some x ∧ v = Value.str x t) (keep := fun _ => true) (V := fun _ _ => False) (G := fun i o => ∃ t t', o = (⟨.type "tuple", none, .seq #[.str (d.getD i Str.empty) t, .int (D (d.getD i Str.empty)) t'] 0, #[]⟩ : Obj)) (cl := [(Str.ofString "due", L + 3)]) (B₀ := topOf L led) (K := fun h => Fr base L h m ∧ News base L h led) frameKept (by with_unfolding_all rfl) (by decide) rfl (by decide) rfl (by omega) ?_ (.inl ⟨rfl, fun _ => rfl⟩) ?_ ?_
  · intro Q' kq
    k_steps
    refine pyIter_walks (vs := vs) hh ⟨_, (N₂ _ hDN).1, rfl, _, rfl⟩ (P' := fun i v => ∃ x t, d[i]? = some x ∧ v = Value.str x t) (fun i v hv => ?_) (fun I h₂ tk₂ fp St e1 e2 st hfp hI Wk hIs hS => ?_)
    · have hi : i < d.length := by rw [← hvl]; exact (List.getElem?_eq_some_iff.mp hv).1
      obtain ⟨t, e⟩ := hvs.2 i d[i] (List.getElem?_eq_getElem hi)
      rw [hv] at e
      exact ⟨d[i], t, List.getElem?_eq_getElem hi, Option.some.inj e⟩
    · rw [hvl] at Wk
      exact kq I h₂ tk₂ fp St (by rw [← e1]; exact topOf_size (by assumption) N₂) e2 ⟨Fr.keeps (by assumption) st, N₂.keeps st⟩ hfp hI Wk hIs hS
  · rintro i v hi ⟨x', t, hx, rfl⟩ _ C s₃ m₃ E' hC' hns hm₃ ⟨F₃, N₃⟩
    obtain ⟨oC, hoC, hNs⟩ := LCg.ns_obj hns
    have hCL : L < C := Nat.lt_of_lt_of_le (topOf_L L _) hC'
    obtain ⟨t', hv'⟩ := hD x' (List.mem_of_getElem? hx)
    refine wpAny_mono (pair_elt (s := s₃) (w := w) (fa := fa) (cd := .ref 64) (E := E') (news_cons ⟨hoC, Nat.ne_of_gt hCL, Heap.get?_none_of_le (Nat.le_trans F₃.above (Nat.le_of_lt hCL))⟩ (news_cons (N₃ _ e3) News.nil)) hNs d3 hm₃ ((Heap.dictOf_iff (knd := PySem.strKind PySem.Challenge.pw_dw0016_02 w)).mpr ⟨oD, (N₃ _ hDU).1, hDUd⟩).mapOf hv') (fun r s₄ hr => ?_) fun _ _ e => e
    obtain ⟨h', tk', P, rfl, rfl, st, hge, hP⟩ := hr
    exact ⟨h', tk', rfl, st, .inr ⟨P, _, rfl, hge, hP, t, t', by rw [List.getD_eq_getElem?_getD, hx]; rfl⟩⟩
  · intro B' h' tk' ys c'' hB ⟨F', N'⟩ hg M
    rw [keptTo_all] at M
    obtain ⟨kb, hkb, hrel⟩ := pairs_of (prog := PySem.Challenge.pw_dw0016_02) (w := w) (h := h') (D := D) d ys (by simpa using M.1) fun i y hy => by
      have hi := (List.getElem?_eq_some_iff.mp hy).1
      have hi' : i < ys.length := by rw [M.1]; simpa using hi
      rcases M.2 i ys[i] i (List.getElem?_eq_getElem hi') (by simp [hi]) with h | ⟨P, o, e1, _, e2, ⟨t, t', e3⟩, _⟩
      · exact h.elim
      · refine ⟨P, t, t', by rw [List.getElem?_eq_getElem hi', e1], ?_⟩
        rw [e2, e3, List.getD_eq_getElem?_getD, hy]; rfl
    clear F₂ N₂
    k_steps
    show wpAny _ _ (call _ _ _) _ _ _
    have hkl : kb.length = d.length := hrel.length
    have sB := F'.notModules (modules_low bs.T.nolimit)
    refine dict_pairs hh hg hkb (by rw [hrel.keys]; exact hkv.nd) (by have : sizeLine = 2 ^ 24 := rfl; omega) fun h₅ tk₅ hDct st₅ => ?_
    have F₅ := F'.keeps st₅
    have N₅ := N'.keeps st₅
    clear F' N'
    k_steps
    show wpAny _ _ (compareOp _ _ _) _ _ _
    rename News _ _ _ _ => N₆
    refine keq_ne (r := true) sT sB ((Heap.dictOf_iff (knd := PySem.strKind PySem.Challenge.pw_dw0016_02 w)).mpr ⟨oT, (N₆ _ hT).1, hTd⟩) hDct (by show A.units + 3 < cLine; omega) (fun _ => hits_of hrel kvs d hkv.rel fun y hy => hy) ?_
    rw [hfew.1, hkl, beq_self_eq_true]
    k_steps
    exact kk _ _ _ (by assumption) (by assumption) fun q hq => hq
end
end Mine
end -- W9
section -- W10
open PySem PySem.W PyProof.Rows PySem.Calls PySem.Spec
set_option maxHeartbeats 8000000
namespace Mine
variable {w : World} {base : Heap} {p : Program} {loose : List Str} {mean : ExcName → Option Value} {mg mb : Str → Option Value}
/-! one turn of law's last loop: what is told, what is missing -/
noncomputable def partsAsg : Stmt := nth (ifBody (nth (stLoopB lwFor) 4)) 0
noncomputable def partComp : PySem.Expr := asgVal partsAsg
noncomputable def partT (D : Str → Int) (st : Int) (x : Str) : Str := Txt.mul (Str.ofString "*") st ++ x ++ Str.ofString "=" ++ Str.ofString (toString (D x))
noncomputable def PartOut (s : Shared) (x : Str) (r : Value) (s₄ : Shared) : Prop := ∃ h' tk t, r = Value.str x t ∧ s₄ = { s with heap := h', toks := tk } ∧ s.heap.StaysIn h'
section
local macro_rules | `(tactic| walk_at "eval Name") => `(tactic| first
  | (refine lcf_cell (by assumption) (by rfl) (List.Mem.tail _ (List.Mem.head _)) (by assumption) ?_ (by rfl) (by rfl))
  | (refine lcf_cell (by assumption) (by rfl) (List.Mem.tail _ (List.Mem.tail _ (List.Mem.head _))) (by assumption) ?_ (by rfl) (by rfl))
  | (refine lcf_cell (by assumption) (by rfl) (List.Mem.tail _ (List.Mem.tail _ (List.Mem.tail _ (List.Mem.head _)))) (by assumption) ?_ (by rfl) (by rfl))
  | (refine LCgL.ld_own (by assumption) (List.Mem.head _) (by assumption) (by assumption) ?_))
local macro_rules | `(tactic| walk_at "subscriptTail Name Name ref int") => `(tactic| refine Mine.Stop.mk ?_)
local macro_rules | `(tactic| walk_at "subscriptTail Name Subscript ref str") => `(tactic| refine Mine.Stop.mk ?_)
variable {A : Around} {E : Value → Shared → Prop} {s : Shared} {L C DU RO ST fa : Addr} {m₃ : Str → Option Value} {c3 c5 c6 oC oD : Obj} {x : Str} {xt t1 t2 tk : Tok} {h₀ : Heap} {f : Str → Option Value} {D : Str → Int} {st : Int} {k c c' : Nat} {rvs sts : List Value} {rest : List (Addr × Obj)} {m : Str → Option Value}
theorem part_elt (X : (hd2.heap_39 w.params).In h₀) (Tp : Top p loose mean mg mb h₀) (hh : A.handled = none) (hroom : A.depth + 10 < recursionLimit) (hu : A.units + 100 < cLine) (F : Fr h₀ L s.heap m) (N : News h₀ L s.heap ((C, oC) :: (L + 3, c3) :: (L + 5, c5) :: (L + 6, c6) :: (DU, oD) :: (RO, W.listOf (List.toArray rvs) c) :: (ST, W.listOf (List.toArray sts) c') :: [])) (hC : LCg.NsObj oC m₃) (d3 : c3.data = .cell (some (.ref DU))) (d5 : c5.data = .cell (some (.ref RO))) (d6 : c6.data = .cell (some (.ref ST))) (hk : m₃ (Str.ofString "k") = some (Value.int (k : Int) tk)) (hk6 : k < 1000)
    (hr : rvs[k]? = some (.str x xt)) (hs : sts[k]? = some (.int st t1)) (hst : 0 ≤ st ∧ st ≤ 2) (hm : s.heap.MapOf (PySem.strKind PySem.Challenge.pw_dw0016_02 w) DU f) (hf : f x = some (.int (D x) t2)) (hxl : x.length ≤ 100) (hD : -(2 ^ 100) < D x ∧ D x < 2 ^ 100) :
    wpAny (model PySem.Challenge.pw_dw0016_02 w) (A.deeper (lwEnv L fa (.ref 64))) (eval (compElt partComp) (compEnvC (compScope partComp) [(Str.ofString "stars", L + 6), (Str.ofString "row", L + 5), (Str.ofString "due", L + 3)] C (lwEnv L fa (.ref 64)))) (PartOut s (partT D st x)) E s := by
  dsimp only [Mine.lwEnv]
  conv in (occs := *) (Mine.stScope Mine.lwStmt) => all_goals whnf
  conv in (occs := *) (compElt partComp) => all_goals whnf
  conv in (occs := *) (compScope partComp) => all_goals whnf
  k_steps
  show wpAny _ _ (subscriptTail _ _ _ _) _ _ _
  refine item_M (i := k) (by assumption) (.tail _ (.tail _ (.tail _ (.tail _ (.tail _ (.tail _ (.head _))))))) (by omega) hs ?_
  k_steps
  show wpAny _ _ (subscriptTail _ _ _ _) _ _ _
  refine item_M (i := k) (by assumption) (.tail _ (.tail _ (.tail _ (.tail _ (.tail _ (.head _)))))) (by omega) hr ?_
  k_steps
  show wpAny _ _ (subscriptTail _ _ _ _) _ _ _
  refine item_M (i := k) (by assumption) (.tail _ (.tail _ (.tail _ (.tail _ (.tail _ (.head _)))))) (by omega) hr ?_
  k_steps
  show wpAny _ _ (subscriptTail _ _ _ _) _ _ _
  refine dict_at hm hf ?_
  k_steps
  exact ⟨_, _, _, rfl, rfl, fun _ _ e => e⟩
end
local macro_rules | `(tactic| walk_at "nm val") => `(tactic| first | assumption | rfl | exact Mine.up_ne (by assumption) (by decide) | exact Mine.up_ne (Mine.up_ne (by assumption) (by decide)) (by decide))
local macro_rules | `(tactic| walk_at "lm") => `(tactic| first | assumption | exact List.Mem.tail _ (by assumption) | exact List.Mem.tail _ (List.Mem.tail _ (by assumption)) | exact List.Mem.tail _ (List.Mem.tail _ (List.Mem.tail _ (by assumption))))
local macro_rules | `(tactic| walk_at "eval Name") => `(tactic| first
  | (name_kind "local"; (rename Fr _ _ _ _ => F'); with_unfolding_all refine Mine.ldC F' (by walk_at "nm val") ?_)
  | (name_kind "cell"; (rename News _ _ _ _ => N'); with_unfolding_all refine Mine.ldCe N' (by rfl) (by walk_at "lm") (by assumption) ?_))
local macro_rules | `(tactic| walk_at "compareOp NotEq ref ref") => `(tactic| refine Mine.Stop.mk ?_)
local macro_rules | `(tactic| walk_at "exec Assign cons ListComp") => `(tactic| refine Mine.Stop.mk ?_)
local macro_rules | `(tactic| walk_at "pyIter ref") => `(tactic| refine Mine.Stop.mk ?_)
local macro_rules | `(tactic| walk_at "call builtin:len cons nil") => `(tactic| refine Mine.Stop.mk ?_)
local macro_rules | `(tactic| walk_at "call builtin:str.join cons nil") => `(tactic| refine Mine.Stop.mk ?_)
section
variable {A : Around} {s : Shared} {h : Heap} {L fa DU RO ST : Addr} {tk c c' : Nat} {m : Str → Option Value} {led : List (Addr × Obj)} {E : Value → Shared → Prop} {Q : Flow → Shared → Prop} {c3 c5 c6 oD : Obj} {rvs sts : List Value} {rows : List Str} {si : List Int} {kvD : List (Str × Value)} {D : Str → Int} {names : List Str} {oa ok : Option Str}
theorem lwb4n (bs : Base1 w base p loose mean mg mb) (B : Below A base [] base) (hh : A.handled = none) (hroom : A.depth + 560 < recursionLimit) (hu : A.units + 9000 < cLine)
    (F : Fr base L h m) (N : News base L h led) (e3 : (L + 3, c3) ∈ led) (d3 : c3.data = .cell (some (.ref DU))) (e5 : (L + 5, c5) ∈ led) (d5 : c5.data = .cell (some (.ref RO))) (e6 : (L + 6, c6) ∈ led) (d6 : c6.data = .cell (some (.ref ST)))
    (hDU : (DU, oD) ∈ led) (hDUd : oD.IsDictOf (PySem.strKind PySem.Challenge.pw_dw0016_02 w) kvD) (hR : (RO, W.listOf (List.toArray rvs) c) ∈ led) (hrs : StrsAre rvs rows) (hrl : rows.length ≤ 100) (hSt : (ST, W.listOf (List.toArray sts) c') ∈ led) (hsi : IntsAre sts si) (hsl : si.length = rows.length) (h02 : ∀ k, k < si.length → 0 ≤ si.getD k 0 ∧ si.getD k 0 ≤ 2)
    (hDv : ∀ y ∈ rows, ∃ t, valueAt kvD y = some (.int (D y) t)) (hDb : ∀ y, -(2 ^ 100) < D y ∧ D y < 2 ^ 100) (hyl : ∀ y ∈ rows, y.length ≤ 100) {tt : Tok} (mg0 : m (Str.ofString "gap") = some .none) (mt : m (Str.ofString "told") = some (.str (Str.ofString "(" ++ Str.join (Str.ofString ", ") (pieces D names oa ok) ++ Str.ofString ")") tt)) (hpt : (List.range rows.length).map (fun k => partT D (si.getD k 0) (rows.getD k Str.empty)) = pieces D names oa ok) (hpl : ∀ x ∈ pieces D names oa ok, x.length ≤ 10200)
    (kk : ∀ h' tk' m' led', Fr base L h' m' → News base L h' led' → (∀ q ∈ led, q ∈ led') → (∀ z, z ≠ Str.ofString "parts" → m' z = m z) → Q .next { s with heap := h', toks := tk' }) :
    wpAny (model PySem.Challenge.pw_dw0016_02 w) (A.deeper (lwEnv L fa (.ref 64))) (exec (nth (stLoopB lwFor) 4) (lwEnv L fa (.ref 64))) Q E { s with heap := h, toks := tk } := by
  have X := bs.K
  have Tp := bs.T
  dsimp only [Mine.lwEnv]
  conv in (occs := *) (Mine.stScope Mine.lwStmt) => all_goals whnf
  conv in (nth (stLoopB lwFor) 4) => whnf
  have hrl' := hrs.1
  obtain ⟨hil, hia⟩ := intsAre_at hsi
  have hjl : (Txt.join (Str.ofString ", ") (pieces D names oa ok)).length ≤ 2000000 := joinLen hpl (by rw [← hpt]; simp; omega)
  k_steps
  show wpAny _ _ (exec _ _) _ _ _
  rename Fr _ _ _ _ => F₂
  rename News _ _ _ _ => N₂
  refine comp_A (n := rows.length) (P := fun i v => ∃ t, v = Value.int (i : Int) t) (keep := fun _ => true) (V := fun i r => ∃ t, r = Value.str (((List.range rows.length).map fun k => partT D (si.getD k 0) (rows.getD k Str.empty)).getD i Str.empty) t) (G := fun _ _ => False) (cl := [(Str.ofString "stars", L + 6), (Str.ofString "row", L + 5), (Str.ofString "due", L + 3)]) (L := L) (h₀ := base) (m := m) (news := led)
    (by with_unfolding_all rfl) rfl rfl rfl (by with_unfolding_all rfl) (by decide) rfl (by decide) rfl (by omega) ?_ (.inl ⟨rfl, fun _ => rfl⟩) ?_ ?_
  · intro Q' kq
    k_steps
    refine len_M (j := rows.length) (by assumption) hR (by omega) hrl' ?_
    k_steps
    show wpAny _ _ (pyIter _) _ _ _
    rename IsRange _ _ _ _ _ _ _ _ => hr
    refine pyIter_ranges hh (by omega) hr (fun I h₂ tk₂ fp St e1 e2 st hfp hI Wk hIs hS => ?_)
    exact kq I h₂ tk₂ fp St (by rw [← e1]; exact topOf_size (m := m) (h₀ := base) (by assumption) (by assumption)) e2 ⟨Fr.keeps (by assumption) st, News.keeps (by assumption) st⟩ hfp hI Wk hIs hS
  · rintro i v hi ⟨t, rfl⟩ _ C s₃ m₃ E' hC' hns hm₃ ⟨F₃, N₃⟩
    obtain ⟨oC, hoC, hNs⟩ := LCg.ns_obj hns
    have hCL : L < C := Nat.lt_of_lt_of_le (topOf_L L _) hC'
    obtain ⟨xt, hx⟩ := hrs.2 i rows[i] (List.getElem?_eq_getElem hi)
    have hmem : rows[i] ∈ rows := List.getElem_mem hi
    obtain ⟨t2, hv'⟩ := hDv rows[i] hmem
    obtain ⟨t1, hs1⟩ := hia i (by omega)
    have hgx : rows.getD i Str.empty = rows[i] := by rw [List.getD_eq_getElem?_getD, List.getElem?_eq_getElem hi]; rfl
    refine wpAny_mono (part_elt (s := s₃) (w := w) (fa := fa) (E := E') (D := D) (k := i) (bs.K) bs.T hh (by omega) (by omega) F₃ (news_cons ⟨hoC, Nat.ne_of_gt hCL, Heap.get?_none_of_le (Nat.le_trans F₃.above (Nat.le_of_lt hCL))⟩ (news_cons (N₃ _ e3) (news_cons (N₃ _ e5) (news_cons (N₃ _ e6) (news_cons (N₃ _ hDU) (news_cons (N₃ _ hR) (news_cons (N₃ _ hSt) News.nil))))))) hNs d3 d5 d6 hm₃ (by omega) hx hs1 (h02 i (by omega)) ((Heap.dictOf_iff (knd := PySem.strKind PySem.Challenge.pw_dw0016_02 w)).mpr ⟨oD, (N₃ _ hDU).1, hDUd⟩).mapOf hv' (hyl _ hmem) (hDb _)) (fun r s₄ hr => ?_) fun _ _ e => e
    obtain ⟨h', tk', t, rfl, rfl, st⟩ := hr
    exact ⟨h', tk', rfl, st, .inl ⟨t, by rw [List.getD_eq_getElem?_getD (l := List.map _ _), List.getElem?_map, List.getElem?_range hi, ← hgx]; rfl⟩⟩
  · intro B' h' tk' ys c'' hB F' N' M
    rw [keptTo_all, hpt] at M
    have hys : StrsAre ys (pieces D names oa ok) := by
      have hl : ys.length = (pieces D names oa ok).length := by rw [M.1, ← hpt]; simp
      refine ⟨hl, fun i x hx => ?_⟩
      have hi := (List.getElem?_eq_some_iff.mp hx).1
      have hi' : i < ys.length := by rw [hl]; exact hi
      have hi2 : i < rows.length := by rw [M.1] at hi'; simpa using hi'
      rcases M.2 i ys[i] i (List.getElem?_eq_getElem hi') (by simp [hi2]) with ⟨t, e⟩ | ⟨_, _, _, _, _, h, _⟩
      · exact ⟨t, by rw [List.getElem?_eq_getElem hi', e, List.getD_eq_getElem?_getD, hx]; rfl⟩
      · exact h.elim
    obtain ⟨sl, rfl, hsl⟩ := strsAre_values hys
    clear F₂ N₂
    have mt' := mt
    rw [← show Txt.join (Str.ofString ", ") (pieces D names oa ok) = Str.join (Str.ofString ", ") (pieces D names oa ok) from StrLaws.glued_eq_join _ _] at mt
    clear mt'
    k_steps
    show wpAny _ _ (call _ _ _) _ _ _
    rename Fr _ _ _ _ => F₃
    rename News _ _ _ _ => N₃
    refine SC.join (D := B') ⟨_, (N₃ _ (.head _)).1, rfl, _, rfl⟩ hsl (joinOk_of hpl (by rw [← hpt]; simp; omega)) fun t' kk' => ?_
    k_steps
    · exfalso
      rename (_ != _) = true => hx
      rw [bne_self_eq_false] at hx
      exact Bool.noConfusion hx
    · exact kk _ _ _ _ (by assumption) (by assumption) (fun q hq => .tail _ hq) (fun z hz => if_neg hz)
theorem lwb4e (bs : Base1 w base p loose mean mg mb) (B : Below A base [] base) (hh : A.handled = none) (hroom : A.depth + 560 < recursionLimit) (hu : A.units + 9000 < cLine)
    (F : Fr base L h m) (N : News base L h led) {a : Addr} {ot : Obj} {y : Str} {yt gt : Tok} {nt : Nat} (mg0 : m (Str.ofString "gap") = some (.str y gt)) (mm : m (Str.ofString "missing") = some (.ref a)) (hl : (a, ot) ∈ led) (h1 : ot.cls = .type "tuple") (h2 : ot.data = .seq #[Value.str y yt] nt) (hy : y ∈ cellNames)
    (kk : ∀ h' tk' led', Fr base L h' m → News base L h' led' → (∀ q ∈ led, q ∈ led') → Q .next { s with heap := h', toks := tk' }) :
    wpAny (model PySem.Challenge.pw_dw0016_02 w) (A.deeper (lwEnv L fa (.ref 64))) (exec (nth (stLoopB lwFor) 4) (lwEnv L fa (.ref 64))) Q E { s with heap := h, toks := tk } := by
  have X := bs.K
  have Tp := bs.T
  dsimp only [Mine.lwEnv]
  conv in (occs := *) (Mine.stScope Mine.lwStmt) => all_goals whnf
  conv in (nth (stLoopB lwFor) 4) => whnf
  have hok := cells_ok y hy
  have hsh : SeqAt.shaped (.tuple [.str y]) = true := by simp [SeqAt.shaped, PyData.canLay0, PyData.canLayAll0, PyData.depth, PyData.depthAll, hok]
  k_steps
  show wpAny _ _ (compareOp _ _ _) _ _ _
  rename News _ _ _ _ => N₂
  refine ne_dataH (.tuple (N₂ _ (.tail _ hl)).1 h1 h2 (.cons (.str y yt) .nil)) (.tuple (N₂ _ (.head _)).1 rfl rfl (.cons (.str y _) .nil)) hsh hsh (by show A.units + 3 + 64 < cLine; omega) ?_
  rw [show PyData.eqv (.tuple [.str y]) (.tuple [.str y]) = true by simp [PyData.eqv, PyData.eqvAll]]
  k_steps
  exact kk _ _ _ (by assumption) (by assumption) fun q hq => .tail _ hq
end
end Mine
end -- W10
section -- W11
open PySem PySem.W PyProof.Rows PySem.Calls PySem.Spec
namespace Mine
/-! law 02: the last loop's tuple; plain facts of what is visited, told, missing -/
section
variable {kn : Str → Option (List Str)} {I : List Str → Prop} {Pg : Str → Prop} {v : Str → List Str → Res}
noncomputable def ResIs (I : List Str → Prop) (Pg : Str → Prop) : Res → Prop
  | .ok x => I x
  | .error e => I e.1 ∧ Pg e.2
theorem foldV_inv (hv : ∀ n x, Pg n → I x → ResIs I Pg (v n x)) : ∀ (l x : List Str), (∀ n ∈ l, Pg n) → I x → ResIs I Pg (foldV v l x)
  | [], x, _, hx => hx
  | n :: l, x, hl, hx => by
    have h := hv n x (hl n (.head _)) hx
    simp only [foldV]
    cases q : v n x with
    | error e => rw [q] at h; exact h
    | ok x' => rw [q] at h; exact foldV_inv hv l x' (fun y hy => hl y (.tail _ hy)) h
theorem vis_inv (hI : ∀ n as x, kn n = some as → I x → I (x ++ [n])) (hg : ∀ n as, kn n = some as → ∀ a ∈ as, Pg a) : ∀ (f : Nat) (n : Str) (x : List Str), Pg n → I x → ResIs I Pg (vis kn f n x) := by
  intro f
  induction f with
  | zero =>
    intro n x hn hx
    by_cases hm : n ∈ x
    · rw [vis_in hm]; exact hx
    · simp only [vis, asks, closeR, if_neg hm]
      exact ⟨hx, hn⟩
  | succ f ih =>
    intro n x hn hx
    by_cases hm : n ∈ x
    · rw [vis_in hm]; exact hx
    · cases hk : kn n with
      | none => rw [vis_none hm hk]; exact ⟨hx, hn⟩
      | some as =>
        rw [vis_some hm hk]
        have := foldV_inv ih as x (hg n as hk) hx
        cases q : foldV (vis kn f) as x with
        | error e => rw [q] at this; exact this
        | ok x' => rw [q] at this; exact hI n as x' hk this
theorem run_inv (hg : ∀ n as, kn n = some as → ∀ a ∈ as, a ∈ cellNames) {f : Nat} {rows : List Str} (hr : ∀ n ∈ rows, n ∈ cellNames) : ResIs (fun d => ∀ y ∈ d, ∃ as, kn y = some as) (fun y => y ∈ cellNames) (foldV (vis kn f) rows []) :=
  foldV_inv (vis_inv (fun n as x hk hx y hy => by
    rcases List.mem_append.mp hy with h | h
    · exact hx y h
    · exact ⟨as, by rw [List.mem_singleton.mp h]; exact hk⟩) hg f) rows [] hr fun _ h => nomatch h
end
theorem mul0 : Txt.mul (Str.ofString "*") 0 = Str.ofString "" := by decide
theorem mul1 : Txt.mul (Str.ofString "*") 1 = Str.ofString "*" := by decide
theorem mul2 : Txt.mul (Str.ofString "*") 2 = Str.ofString "**" := by decide
theorem emp_app (x : Str) : Str.ofString "" ++ x = x := by
  show Str.empty ++ x = x
  exact Str.empty_append x
noncomputable def starsOf (names : List Str) (oa ok : Option Str) : List Int := List.replicate names.length 0 ++ List.replicate oa.toList.length 1 ++ List.replicate ok.toList.length 2
theorem parts_zip {D : Str → Int} : ∀ (si : List Int) (rows : List Str), si.length = rows.length → (List.range rows.length).map (fun k => partT D (si.getD k 0) (rows.getD k Str.empty)) = List.zipWith (partT D) si rows := by
  intro si rows hl
  refine List.ext_getElem? fun i => ?_
  by_cases hi : i < rows.length
  · have hi' : i < si.length := by omega
    rw [List.getElem?_map, List.getElem?_range hi, List.getElem?_zipWith]
    simp [List.getElem?_eq_getElem hi, List.getElem?_eq_getElem hi', List.getD_eq_getElem?_getD]
  · rw [List.getElem?_eq_none (by simpa using hi), List.getElem?_eq_none (by simp; omega)]
theorem zip_rep {α β : Type} (f : Int → α → β) (a : Int) : ∀ l : List α, List.zipWith f (List.replicate l.length a) l = l.map (f a)
  | [] => rfl
  | x :: l => by simp [List.replicate_succ, zip_rep f a l]
theorem parts_eq {D : Str → Int} {names : List Str} {oa ok : Option Str} : (List.range (favNames names oa ok).length).map (fun k => partT D ((starsOf names oa ok).getD k 0) ((favNames names oa ok).getD k Str.empty)) = pieces D names oa ok := by
  rw [parts_zip _ _ (by simp [starsOf, favNames])]
  unfold starsOf favNames pieces
  rw [List.zipWith_append (by simp), List.zipWith_append (by simp), zip_rep, zip_rep, zip_rep]
  congr 1
  · congr 1
    · refine List.map_congr_left fun n _ => ?_
      rw [partT, mul0, emp_app]
      exact Str.append_assoc _ _ _
    · refine List.map_congr_left fun n _ => ?_
      rw [partT, mul1]
      exact Str.append_assoc _ _ _
  · refine List.map_congr_left fun n _ => ?_
    rw [partT, mul2]
    exact Str.append_assoc _ _ _
theorem stars_in {names : List Str} {oa ok : Option Str} (k : Nat) (h : k < (starsOf names oa ok).length) : 0 ≤ (starsOf names oa ok).getD k 0 ∧ (starsOf names oa ok).getD k 0 ≤ 2 := by
  rw [List.getD_eq_getElem?_getD, List.getElem?_eq_getElem h]
  have hm := List.getElem_mem h
  generalize (starsOf names oa ok)[k] = z at *
  show 0 ≤ z ∧ z ≤ 2
  simp only [starsOf, List.mem_append, List.mem_replicate] at hm
  omega
section
variable {prog : Program} {w : World} {A : Around} {E : Value → Shared → Prop} {s : Shared} {env : Env} {h₀ : Heap} {x : Str} {body : List Stmt} {Q : Flow → Shared → Prop}
theorem tup_loop {l : Addr} {vs : Array Value} {c : Nat} {m₀ : Str → Option Value} {news : List (Addr × Obj)} (J : Nat → (Str → Option Value) → List (Addr × Obj) → Prop)
    (hh : A.handled = none) (hl : (l, (⟨.type "tuple", none, .seq vs c, #[]⟩ : Obj)) ∈ news) (F : Fr h₀ env.locals s.heap m₀) (N : News h₀ env.locals s.heap news) (hJl : ∀ i m nw, J i m nw → (l, (⟨.type "tuple", none, .seq vs c, #[]⟩ : Obj)) ∈ nw) (hj : J 0 m₀ news)
    (turn : ∀ i v m₁ news₁ h tk I io, I = s.heap.objs.size → (∃ j, io.data = .fields #[.ref l, .int j 0]) → vs[i]? = some v → J i m₁ news₁ → (∀ p ∈ news₁, p.1 ≠ I) → Fr h₀ env.locals h (fun y => if y = x then some v else m₁ y) → News h₀ env.locals h ((I, io) :: news₁) →
      wpAny (model prog w) A (execs body env) (TurnEnd h₀ env.locals s Q I io (J (i + 1))) E { s with heap := h, toks := tk })
    (done : ∀ m₁ news₁ h tk, J vs.size m₁ news₁ → Fr h₀ env.locals h m₁ → News h₀ env.locals h news₁ → Q .next { s with heap := h, toks := tk }) :
    wpAny (model prog w) A (pyIter (.ref l)) (fun it s₂ => LoopAtV prog w A h₀ env x body Q E it s₂) E s := by
  have hls : s.heap.IsTuple l vs := ⟨_, (N _ hl).1, rfl, _, rfl⟩
  have hlt : l < s.heap.objs.size := Heap.lt_size (N _ hl).1
  refine wpAny_pyIter_tuple hls ?_
  have Wk := Walks.tuple (prog := prog) (w := w) hh s.heap.objs.size l (Nat.ne_of_lt hlt) vs
  have hIL : s.heap.objs.size ≠ env.locals := Nat.ne_of_gt F.ns.lt
  refine ⟨s.heap.objs.size, _, _, vs.size, _, _, m₀, news, J, rfl, Wk, ?_, ?_, ?_, ⟨⟨_, Heap.get?_push_size _ rfl, rfl, rfl⟩, hls.at fun o e => Heap.get?_push_of_some _ e⟩, F.push _, fun p hp => ⟨Heap.get?_push_of_some _ (N p hp).1, (N p hp).2⟩, hj, ?_, fun h' tk' m' news' F' N' _ hJ => done m' news' h' tk' hJ F' N'⟩
  · intro hm
    rcases List.mem_cons.mp hm with e | hm
    · exact hIL e.symm
    · exact (N _ hl).2.1 (List.mem_singleton.mp hm).symm
  · intro b hb
    rw [List.mem_singleton.mp hb]
    exact next_is_new F
  · intro p hp hI
    exact absurd (Heap.lt_size (N p hp).1) ((List.mem_singleton.mp hI) ▸ Nat.lt_irrefl _)
  · rintro i v m₁ news₁ s₁ own ⟨h₁, tk₁, rfl⟩ hi hP hJ hnw hown hget hall hst₁ F₁ N₁
    obtain ⟨⟨io, hio, _, hiod⟩, _⟩ := id hst₁
    have hI0 : h₀.get? s.heap.objs.size = none := next_is_new F
    have hmem : (s.heap.objs.size, io) ∈ own := hall _ (.head _) hI0 io hio
    have hll := hJl i m₁ news₁ hJ
    have hsub : ∀ q ∈ own, q = (s.heap.objs.size, io) ∨ q = (l, (⟨.type "tuple", none, .seq vs c, #[]⟩ : Obj)) := fun q hq => by
      rcases List.mem_cons.mp (hown q hq) with e | e
      · left
        have h3 := hget q hq
        rw [e, hio] at h3
        cases q; cases e; cases h3; rfl
      · right
        have e := List.mem_singleton.mp e
        have h3 := hget q hq
        have h4 := (N₁ _ (List.mem_append_right _ hll)).1
        rw [e, h4] at h3
        cases q; cases e; cases h3; rfl
    refine wpAny_mono (turn i v m₁ news₁ h₁ tk₁ s.heap.objs.size io rfl ⟨_, hiod⟩ (by simpa using hP) hJ (fun p hp e => hnw p hp (List.mem_singleton.mpr e)) F₁ fun q hq => ?_) (fun f s₃ e => ?_) fun _ _ e => e
    · rcases List.mem_cons.mp hq with rfl | hq
      · exact N₁ _ (List.mem_append_left _ hmem)
      · exact N₁ q (List.mem_append_right _ hq)
    · have fin : (∃ h' tk m' news', s₃ = { s with heap := h', toks := tk } ∧ Fr h₀ env.locals h' m' ∧ News h₀ env.locals h' ((s.heap.objs.size, io) :: news') ∧ (∀ p ∈ news', p.1 ≠ s.heap.objs.size) ∧ J (i + 1) m' news') →
          LoopStepU h₀ env.locals [s.heap.objs.size] own (J (i + 1)) { s with heap := h₁, toks := tk₁ } .next s₃ := by
        rintro ⟨h', tk, m', news', rfl, F', N', hn, hm⟩
        refine ⟨rfl, h', tk, m', news', rfl, F', fun p hp => ?_, fun p hp hm => hn p hp (List.mem_singleton.mp hm), hm⟩
        rcases List.mem_append.mp hp with q | q
        · rcases hsub p q with rfl | rfl
          · exact N' _ (.head _)
          · exact N' _ (.tail _ (hJl _ _ _ hm))
        · exact N' p (.tail _ q)
      cases f with
      | ret v => exact .ret e
      | brk => exact .brk e
      | next => exact .next (fin e)
      | cont => exact .cont (fin e)
end
end Mine
end -- W11
section -- W12
open PySem PySem.W PyProof.Rows PySem.Calls PySem.Spec
set_option maxHeartbeats 8000000
namespace Mine
variable {w : World} {base : Heap} {p : Program} {loose : List Str} {mean : ExcName → Option Value} {mg mb : Str → Option Value}
/-! one turn of law's last loop, whole -/
structure KnP (w : World) (stuffK : List (Addr × Obj)) (kvD : List (Str × Value)) (KN : Addr) (f : Str → Option Value) (kn : Str → Option (List Str)) (bv D : Str → Int) (rk : Str → Nat) : Prop where
  known : ∀ H, HoldsAll stuffK H → Known w H KN f kn
  ks : ∀ H, HoldsAll stuffK H → ∀ n as, kn n = some as → ∃ tup al t vs, f n = some (.ref tup) ∧ H.IsTuple tup #[.ref al, .int (bv n) t] ∧ H.IsList al (List.toArray vs) ∧ StrsAre vs as
  hr : ∀ n as, kn n = some as → ∀ a ∈ as, rk a < rk n
  cell : ∀ n as, kn n = some as → n ∈ cellNames
  incl : ∀ n as, kn n = some as → ∀ a ∈ as, a ∈ cellNames
  due : ∀ n as, kn n = some as → D n = bv n + (as.map D).sum
  inD : ∀ n as, kn n = some as → ∃ t, valueAt kvD n = some (.int (D n) t)
theorem KnP.sheet {H : Heap} {SH KN T G : Addr} {f : Str → Option Value} {kn : Str → Option (List Str)} {bv D : Str → Int} {rk : Str → Nat} {stuffK : List (Addr × Obj)} {kvD : List (Str × Value)} (K : KnP w stuffK kvD KN f kn bv D rk) (h : HoldsAll stuffK H) (hs : H.IsTuple SH #[.ref KN, .ref T, .ref G]) (sT : (T == sysModules) = false) : SheetIs w H SH KN T G f kn bv D :=
  ⟨hs, (K.known H h).map, (K.known H h).sys, sT, K.cell, K.incl, K.ks H h, (K.known H h).kno, fun n as e => ⟨(K.known H h).few n as e, fun a ha => cells_clean a (K.incl n as e a ha)⟩, K.due⟩
noncomputable def CodOk (base : Heap) (led : List (Addr × Obj)) : Prop := ∃ cod, (∀ z ∈ cod, z ∈ led ∧ (∃ vs, z.2.data = .fields vs) ∧ (z.1 = 38 ∨ z.1 = 50 ∨ z.1 = 62 ∨ IsRec z.2)) ∧ ∀ h', base.StaysIn h' → HoldsAll cod h' → CodeT 38 7 4 convQual h' ∧ CodeT 50 23 14 wayQual h' ∧ TabT 62 lamQual h'
theorem CodOk.push {led led' : List (Addr × Obj)} (C : CodOk base led) (h : ∀ q ∈ led, (q.1 = 38 ∨ q.1 = 50 ∨ q.1 = 62 ∨ IsRec q.2) → q ∈ led') : CodOk base led' :=
  let ⟨cod, a, b⟩ := C; ⟨cod, fun z hz => ⟨h z (a z hz).1 (a z hz).2.2, (a z hz).2⟩, b⟩
structure LwT (base : Heap) (L DU RO ST AR : Addr) (cv : Nat → Option Value) (va vk : Value) (stuff : List (Addr × Obj)) (m : Str → Option Value) (led : List (Addr × Obj)) : Prop where
  C : LwC L cv stuff led
  v3 : cv 3 = some (.ref DU)
  v5 : cv 5 = some (.ref RO)
  v6 : cv 6 = some (.ref ST)
  ma : m (Str.ofString "args") = some (.ref AR)
  mva : m (Str.ofString "varargs") = some va
  mvk : m (Str.ofString "varkw") = some vk
  cod : CodOk base led
theorem LwC.offT {L T G : Addr} {cv : Nat → Option Value} {stuff led led' : List (Addr × Obj)} (S : LwC L cv stuff led) (hk : ∀ q ∈ led, q.1 ∉ offS T G → q ∈ led') (hT : L + 7 < T) (hG : L + 7 < G) (l38 : 38 < L ∧ 50 < L ∧ 62 < L) (hs : ∀ q ∈ stuff, q.1 ∉ offS T G) : LwC L cv stuff led' := by
  refine ⟨fun j a b => ?_, fun q hq => hk q (S.sub q hq) (hs q hq), S.off⟩
  obtain ⟨co, x, y⟩ := S.cells j a b
  refine ⟨co, hk _ x ?_, y⟩
  simp only [offS, List.mem_cons, List.not_mem_nil, or_false, not_or]
  have q : ∀ {b : Addr}, b < L → L + j ≠ b := fun hb => Nat.ne_of_gt (Nat.lt_of_lt_of_le hb (Nat.le_add_right L j))
  exact ⟨Nat.ne_of_lt (Nat.lt_of_le_of_lt (Nat.add_le_add_left b L) hT), Nat.ne_of_lt (Nat.lt_of_le_of_lt (Nat.add_le_add_left b L) hG), q l38.1, q l38.2.1, q l38.2.2⟩
noncomputable abbrev lwStuff (ST RO AR DU : Addr) (sts rvs arvs : List Value) (c1 c2 c3 : Nat) (oD : Obj) (stuffK : List (Addr × Obj)) : List (Addr × Obj) := (ST, W.listOf (List.toArray sts) c1) :: (RO, W.listOf (List.toArray rvs) c2) :: (AR, W.listOf (List.toArray arvs) c3) :: (DU, oD) :: stuffK
section
variable {A : Around} {s : Shared} {h : Heap} {L fa KN DU RO ST AR SH T G : Addr} {tk c1 c2 c3 : Nat} {m : Str → Option Value} {led stuffK : List (Addr × Obj)} {E : Value → Shared → Prop} {Q : Flow → Shared → Prop} {oD : Obj} {sts rvs arvs : List Value} {kvD : List (Str × Value)} {f : Str → Option Value} {kn : Str → Option (List Str)} {bv D : Str → Int} {rk : Str → Nat} {names : List Str} {oa ok : Option Str} {va vk : Value} {cv : Nat → Option Value}
theorem lw_rest (bs : Base1 w base p loose mean mg mb) (B : Below A base [] base) (hh : A.handled = none) (hroom : A.depth + 560 < recursionLimit) (hu : A.units + 9000 < cLine) (l38 : 38 < L ∧ 50 < L ∧ 62 < L)
    (KP : KnP w stuffK kvD KN f kn bv D rk) (big : ∀ q ∈ lwStuff ST RO AR DU sts rvs arvs c1 c2 c3 oD stuffK, L + 7 < q.1) (hD : ∀ n, -(2 ^ 100) < D n ∧ D n < 2 ^ 100) (hDUd : oD.IsDictOf (strKind PySem.Challenge.pw_dw0016_02 w) kvD) (hrs : StrsAre rvs (favNames names oa ok)) (hlen : (favNames names oa ok).length ≤ 66) (hsi : IntsAre sts (starsOf names oa ok)) (hrc : ∀ n ∈ favNames names oa ok, n ∈ cellNames) (hrD : ∀ n ∈ favNames names oa ok, ∃ t, valueAt kvD n = some (.int (D n) t)) (hrk : ∀ n ∈ favNames names oa ok, rk n < 67)
    (F : Fr base L h m) (N : News base L h led) (S : LwT base L DU RO ST AR cv va vk ((SH, tup3 KN T G) :: lwStuff ST RO AR DU sts rvs arvs c1 c2 c3 oD stuffK) m led) (v7 : cv 7 = some (.ref SH)) (lSH : L + 7 < SH) (sT : (T == sysModules) = false) (mk : m (Str.ofString "known") = some (.ref KN))
    {oT : Obj} {kvs : List (Str × Value)} {vs : List Value} {lc : Nat} {x : List Str} {cod : List (Addr × Obj)} (hT : (T, oT) ∈ led) (hG : (G, W.listOf (List.toArray vs) lc) ∈ led) (O : OwnSt w D T G base x oT kvs vs cod)
    (hres : (foldV (vis kn 67) (favNames names oa ok) [] = .ok x ∧ ∃ tt, m (Str.ofString "told") = some (.str (Str.ofString "(" ++ Str.join (Str.ofString ", ") (pieces D names oa ok) ++ Str.ofString ")") tt)) ∨ (∃ y yt a ot nt, foldV (vis kn 67) (favNames names oa ok) [] = .error (x, y) ∧ m (Str.ofString "missing") = some (.ref a) ∧ (a, ot) ∈ led ∧ ot.cls = .type "tuple" ∧ ot.data = .seq #[Value.str y yt] nt))
    (kk : ∀ h' tk' m' led', Fr base L h' m' → News base L h' led' → LwT base L DU RO ST AR cv va vk (lwStuff ST RO AR DU sts rvs arvs c1 c2 c3 oD stuffK) m' led' → (∀ q ∈ led, q ∈ led') → Q .next { s with heap := h', toks := tk' }) :
    wpAny (model PySem.Challenge.pw_dw0016_02 w) (A.deeper (lwEnv L fa (.ref 64))) (execs (nth (stLoopB lwFor) 2 :: nth (stLoopB lwFor) 3 :: nth (stLoopB lwFor) 4 :: []) (lwEnv L fa (.ref 64))) Q E { s with heap := h, toks := tk } := by
  have X := bs.K
  have Tp := bs.T
  obtain ⟨co3, e3, d3⟩ := S.C.cells 3 (by decide) (by decide)
  obtain ⟨co5, e5, d5⟩ := S.C.cells 5 (by decide) (by decide)
  obtain ⟨co6, e6, d6⟩ := S.C.cells 6 (by decide) (by decide)
  obtain ⟨co7, e7, d7⟩ := S.C.cells 7 (by decide) (by decide)
  rw [S.v3] at d3
  rw [S.v5] at d5
  rw [S.v6] at d6
  rw [v7] at d7
  have hSH := S.C.sub _ (.head _)
  have hST := S.C.sub _ (.tail _ (.head _))
  have hRO := S.C.sub _ (.tail _ (.tail _ (.head _)))
  have hDU := S.C.sub _ (.tail _ (.tail _ (.tail _ (.tail _ (.head _)))))
  have lRO : L + 7 < RO := big _ (.tail _ (.head _))
  have lRO' : L < RO := Nat.lt_of_le_of_lt (Nat.le_add_right L 7) lRO
  have n38 : ∀ {b : Addr}, L + 7 < b → b ≠ 38 := fun hb => Nat.ne_of_gt (Nat.lt_trans l38.1 (Nat.lt_of_le_of_lt (Nat.le_add_right L 7) hb))
  have inv := run_inv KP.incl (f := 67) hrc
  refine stop_cons ?_
  refine lwb2 bs X Tp B hh hroom hu F N mk e5 d5 hRO hrs hrc (by omega) hrk l38.1 lRO' (fun H hH => KP.sheet (fun q hq => hH q (S.C.sub _ (.tail _ (.tail _ (.tail _ (.tail _ (.tail _ hq)))))) (n38 (big q (.tail _ (.tail _ (.tail _ (.tail _ hq))))))) ⟨_, hH _ hSH (n38 lSH), rfl, _, rfl⟩ sT) KP.hr ?_
  intro h2 tk2 m2 led2 DN vs2 c2' gv d F2 N2 sub2 hDN hvs2 hgap md mgap mm
  have hx : d = x := by
    rcases hres with ⟨e, _⟩ | ⟨y, yt, a, ot, nt, e, _⟩ <;> rcases hgap with ⟨_, g⟩ | ⟨_, _, _, g⟩ <;> rw [e] at g <;> cases g <;> rfl
  subst hx
  have dK : ∀ y ∈ d, ∃ as, kn y = some as := by
    rcases hres with ⟨e, _⟩ | ⟨y, yt, a, ot, nt, e, _⟩ <;> rw [e] at inv
    · exact inv
    · exact inv.1
  show wpAny _ _ (execs (nth (stLoopB lwFor) 3 :: nth (stLoopB lwFor) 4 :: []) (lwEnv L fa (.ref 64))) _ _ _
  refine stop_cons ?_
  refine lwb3 bs B hh hroom hu F2 N2 (sub2 _ e7) d7 (sub2 _ hSH) (sub2 _ hT) O.d O.kv sT (sub2 _ hG) O.l md hDN hvs2 (sub2 _ e3) d3 (sub2 _ hDU) hDUd (fun y hy => let ⟨as, e⟩ := dK y hy; KP.inD y as e) ?_
  intro h3 tk3 led3 F3 N3 sub3
  show wpAny _ _ (execs (nth (stLoopB lwFor) 4 :: []) (lwEnv L fa (.ref 64))) _ _ _
  refine stop_cons ?_
  have fin : ∀ h4 tk4 m4 led4, Fr base L h4 m4 → News base L h4 led4 → (∀ q ∈ led3, q ∈ led4) → (∀ z, z ≠ Str.ofString "parts" → m4 z = m2 z) → Stop (wpAny (model PySem.Challenge.pw_dw0016_02 w) (A.deeper (lwEnv L fa (.ref 64))) (execs [] (lwEnv L fa (.ref 64))) Q E { s with heap := h4, toks := tk4 }) := by
    intro h4 tk4 m4 led4 F4 N4 sub4 mm4
    refine wpAny_execs_nil ?_
    have sub : ∀ q ∈ led, q ∈ led4 := fun q hq => sub4 q (sub3 q (sub2 q hq))
    refine kk h4 tk4 m4 led4 F4 N4 ⟨(S.C.less fun q hq => .tail _ hq).push sub, S.v3, S.v5, S.v6, ?_, ?_, ?_, S.cod.push fun q hq _ => sub q hq⟩ sub
    · rw [mm4 _ (by decide), mm _ (by decide) (by decide)]; exact S.ma
    · rw [mm4 _ (by decide), mm _ (by decide) (by decide)]; exact S.mva
    · rw [mm4 _ (by decide), mm _ (by decide) (by decide)]; exact S.mvk
  rcases hres with ⟨e, tt, mt⟩ | ⟨y, yt, a, ot, nt, e, mmi, ha, ho1, ho2⟩
  · rcases hgap with ⟨rfl, g⟩ | ⟨_, _, _, g⟩
    · refine lwb4n bs B hh hroom hu F3 N3 (sub3 _ (sub2 _ e3)) d3 (sub3 _ (sub2 _ e5)) d5 (sub3 _ (sub2 _ e6)) d6 (sub3 _ (sub2 _ hDU)) hDUd (sub3 _ (sub2 _ hRO)) hrs (by omega) (sub3 _ (sub2 _ hST)) hsi (by simp [starsOf, favNames]) stars_in hrD hD (fun y hy => (cells_clean y (hrc y hy)).2) mgap (tt := tt) (by rw [mm _ (by decide) (by decide)]; exact mt) parts_eq (pieces_len hD fun n hn => (cells_clean n (hrc n hn)).2) ?_
      intro h4 tk4 m4 led4 F4 N4 sub4 mm4
      exact fin h4 tk4 m4 led4 F4 N4 sub4 mm4
    · rw [e] at g; cases g
  · rcases hgap with ⟨_, g⟩ | ⟨y', yt', rfl, g⟩
    · rw [e] at g; cases g
    · rw [e] at g
      cases g
      rw [e] at inv
      refine lwb4e bs B hh hroom hu F3 N3 mgap (by rw [mm _ (by decide) (by decide)]; exact mmi) (sub3 _ (sub2 _ ha)) ho1 ho2 inv.2 ?_
      intro h4 tk4 led4 F4 N4 sub4
      exact fin h4 tk4 m2 led4 F4 N4 sub4 fun _ _ => rfl
end
end Mine
end -- W12
section -- W13
open PySem PySem.W PyProof.Rows PySem.Calls PySem.Spec
set_option maxHeartbeats 8000000
namespace Mine
variable {w : World} {base : Heap} {p : Program} {loose : List Str} {mean : ExcName → Option Value} {mg mb : Str → Option Value}
section
variable {A : Around} {s : Shared} {h : Heap} {L fa KN DU RO ST AR : Addr} {tk c1 c2 c3 : Nat} {m : Str → Option Value} {led stuffK : List (Addr × Obj)} {E : Value → Shared → Prop} {Q : Flow → Shared → Prop} {oD : Obj} {sts rvs arvs : List Value} {kvD : List (Str × Value)} {f : Str → Option Value} {kn : Str → Option (List Str)} {bv D : Str → Int} {rk : Str → Nat} {names : List Str} {oa ok : Option Str} {va vk : Value} {cv : Nat → Option Value}
theorem lw_turn (bs : Base1 w base p loose mean mg mb) (C50 : CodeHd base 54 50) (C62 : CodeHd base 64 62) (b50 : base.get? 50 = none) (b62 : base.get? 62 = none) (kf : KeyFree p loose) (B : Below A base [] base) (hh : A.handled = none) (hroom : A.depth + 560 < recursionLimit) (hu : A.units + 9000 < cLine) (l38 : 38 < L ∧ 50 < L ∧ 62 < L)
    (KP : KnP w stuffK kvD KN f kn bv D rk) (big : ∀ q ∈ lwStuff ST RO AR DU sts rvs arvs c1 c2 c3 oD stuffK, L + 7 < q.1) (hD : ∀ n, -(2 ^ 100) < D n ∧ D n < 2 ^ 100) (hDUd : oD.IsDictOf (strKind PySem.Challenge.pw_dw0016_02 w) kvD) (hrs : StrsAre rvs (favNames names oa ok)) (harvs : StrsAre arvs names) (hva : VarIs va oa) (hvk : VarIs vk ok) (hlen : (favNames names oa ok).length ≤ 66) (hsi : IntsAre sts (starsOf names oa ok)) (hrc : ∀ n ∈ favNames names oa ok, n ∈ cellNames) (hrD : ∀ n ∈ favNames names oa ok, ∃ t, valueAt kvD n = some (.int (D n) t)) (hrk : ∀ n ∈ favNames names oa ok, rk n < 67)
    (F : Fr base L h m) (N : News base L h led) (S : LwT base L DU RO ST AR cv va vk (lwStuff ST RO AR DU sts rvs arvs c1 c2 c3 oD stuffK) m led) (mk : m (Str.ofString "known") = some (.ref KN))
    (kk : ∀ h' tk' m' led' cv', Fr base L h' m' → News base L h' led' → LwT base L DU RO ST AR cv' va vk (lwStuff ST RO AR DU sts rvs arvs c1 c2 c3 oD stuffK) m' led' → (∀ q ∈ led, L + 7 < q.1 → q ∈ led') → Q .next { s with heap := h', toks := tk' }) :
    wpAny (model PySem.Challenge.pw_dw0016_02 w) (A.deeper (lwEnv L fa (.ref 64))) (execs (nth (stLoopB lwFor) 0 :: nth (stLoopB lwFor) 1 :: nth (stLoopB lwFor) 2 :: nth (stLoopB lwFor) 3 :: nth (stLoopB lwFor) 4 :: []) (lwEnv L fa (.ref 64))) Q E { s with heap := h, toks := tk } := by
  have X := bs.K
  have Tp := bs.T
  obtain ⟨co7, e7, d7⟩ := S.C.cells 7 (by decide) (by decide)
  obtain ⟨cod0, hcod0, hok0⟩ := S.cod
  have hcod7 : ∀ z ∈ cod0, z.1 ≠ L + 7 := fun z hz e => by
    obtain ⟨a, ⟨fv, b⟩, _⟩ := hcod0 z hz
    have h1 := (N z a).1
    have h2 : h.get? (L + 7) = some co7 := (N _ e7).1
    rw [e] at h1
    rw [h1] at h2
    have h3 : z.2 = co7 := Option.some.inj h2
    rw [← h3, b] at d7
    cases d7
  refine stop_cons ?_
  refine lwb0 X Tp B hh hroom hu F N mk e7 d7 ?_
  intro h1 tk1 led1 T G SH oT co' F1 N1 Tu hd hT sT lt lTG lGS
  have hLT : L + 7 < T := S.C.above lt
  have hLG : L + 7 < G := Nat.lt_trans hLT lTG
  have hLS : L + 7 < SH := Nat.lt_trans hLG lGS
  have S1 := ((((S.C.push (led' := (SH, tup3 KN T G) :: (G, W.listOf (List.toArray []) 0) :: (T, oT) :: led) fun q hq => .tail _ (.tail _ (.tail _ hq))).add (q := (T, oT)) (.tail _ (.tail _ (.head _))) hLT).add (q := (G, W.listOf (List.toArray []) 0)) (.tail _ (.head _)) hLG).add (q := (SH, tup3 KN T G)) (.head _) hLS).store (j := 7) (by decide) (by decide) Tu hd
  have old1 : ∀ q ∈ led, q.1 ≠ L + 7 → q ∈ led1 := fun q hq hn => Tu.old q (.tail _ (.tail _ (.tail _ hq))) hn
  have cod1 := hok0 h1 F1.keep fun z hz => (N1 z (old1 z (hcod0 z hz).1 (hcod7 z hz))).1
  have L38 : ∀ {b : Addr}, L + 7 < b → b ≠ 38 ∧ b ≠ 50 ∧ b ≠ 62 := fun {b} hb =>
    have hLb : L < b := Nat.lt_of_le_of_lt (Nat.le_add_right L 7) hb
    ⟨Nat.ne_of_gt (Nat.lt_trans l38.1 hLb), Nat.ne_of_gt (Nat.lt_trans l38.2.1 hLb), Nat.ne_of_gt (Nat.lt_trans l38.2.2 hLb)⟩
  have nTG : ∀ q ∈ led, q.1 ≠ T ∧ q.1 ≠ G := fun q hq => ⟨Nat.ne_of_lt (lt q hq), Nat.ne_of_lt (Nat.lt_trans (lt q hq) lTG)⟩
  have I : TryIn w base h1 L SH KN T G AR oT arvs c3 f kn stuffK led1 :=
    { co := ⟨co', Tu.new, hd⟩, sh := S1.sub _ (.head _), t := S1.sub _ (.tail _ (.tail _ (.head _))), td := hT, g := S1.sub _ (.tail _ (.head _)), ar := S1.sub _ (.tail _ (.tail _ (.tail _ (.tail _ (.tail _ (.head _)))))), c38 := cod1.1, c50 := cod1.2.1, c62 := cod1.2.2, l38 := l38, up := ⟨hLT, lTG, lGS⟩
      sK := fun q hq => by
        have hq' : q ∈ lwStuff ST RO AR DU sts rvs arvs c1 c2 c3 oD stuffK := .tail _ (.tail _ (.tail _ (.tail _ hq)))
        exact ⟨S1.sub _ (.tail _ (.tail _ (.tail _ hq'))), (nTG q (S.C.sub q hq')).1, (nTG q (S.C.sub q hq')).2, L38 (big q hq')⟩
      arne := ⟨(nTG _ (S.C.sub _ (.tail _ (.tail _ (.head _))))).1, (nTG _ (S.C.sub _ (.tail _ (.tail _ (.head _))))).2, Nat.lt_of_le_of_lt (Nat.le_add_right L 7) (big _ (.tail _ (.tail _ (.head _))))⟩, known := KP.known, sysT := sT }
  have hnl : ∀ n ∈ favNames names oa ok, n.length ≤ 100 ∧ rk n < 67 := fun n hn => ⟨(cells_clean n (hrc n hn)).2, hrk n hn⟩
  have hln : names.length ≤ 100 := by simp only [favNames, List.length_append] at hlen; omega
  have hclean : ∀ n as, kn n = some as → ∀ a ∈ as, Clean a ∧ a.length ≤ 100 := fun n as e a ha => cells_clean a (KP.incl n as e a ha)
  have hsoff : ∀ q ∈ (SH, tup3 KN T G) :: lwStuff ST RO AR DU sts rvs arvs c1 c2 c3 oD stuffK, q.1 ∉ offS T G := fun q hq => by
    have : q.1 ≠ T ∧ q.1 ≠ G ∧ L + 7 < q.1 := by
      rcases List.mem_cons.mp hq with rfl | hq
      · exact ⟨Nat.ne_of_gt (Nat.lt_trans lTG lGS), Nat.ne_of_gt lGS, hLS⟩
      · exact ⟨(nTG q (S.C.sub q hq)).1, (nTG q (S.C.sub q hq)).2, big q hq⟩
    simp only [offS, List.mem_cons, List.not_mem_nil, or_false, not_or]
    exact ⟨this.1, this.2.1, L38 this.2.2⟩
  have S1' := S1.less (stuff' := (SH, tup3 KN T G) :: lwStuff ST RO AR DU sts rvs arvs c1 c2 c3 oD stuffK) fun q hq => by
    rcases List.mem_cons.mp hq with rfl | hq
    · exact .head _
    · exact .tail _ (.tail _ (.tail _ hq))
  show wpAny _ _ (execs (nth (stLoopB lwFor) 1 :: nth (stLoopB lwFor) 2 :: nth (stLoopB lwFor) 3 :: nth (stLoopB lwFor) 4 :: []) (lwEnv L fa (.ref 64))) _ _ _
  have fin : ∀ h2 tk2 m2 led2 x oT2 kvs vs lc cod, Fr base L h2 m2 → News base L h2 ((T, oT2) :: (G, W.listOf (List.toArray vs) lc) :: (cod ++ led2)) → (∀ q ∈ led1, q.1 ∉ offS T G → q ∈ led2) → OwnSt w D T G base x oT2 kvs vs cod → TabT 62 lamQual h2 → (∀ z, z ≠ Str.ofString "told" → z ≠ Str.ofString "missing" → z ≠ Str.ofString "error" → m2 z = m z) →
      ((foldV (vis kn 67) (favNames names oa ok) [] = .ok x ∧ ∃ tt, m2 (Str.ofString "told") = some (.str (Str.ofString "(" ++ Str.join (Str.ofString ", ") (pieces D names oa ok) ++ Str.ofString ")") tt)) ∨ (∃ y yt a ot nt, foldV (vis kn 67) (favNames names oa ok) [] = .error (x, y) ∧ m2 (Str.ofString "missing") = some (.ref a) ∧ (a, ot) ∈ led2 ∧ ot.cls = .type "tuple" ∧ ot.data = .seq #[Value.str y yt] nt)) →
      Stop (wpAny (model PySem.Challenge.pw_dw0016_02 w) (A.deeper (lwEnv L fa (.ref 64))) (execs (nth (stLoopB lwFor) 2 :: nth (stLoopB lwFor) 3 :: nth (stLoopB lwFor) 4 :: []) (lwEnv L fa (.ref 64))) Q E { s with heap := h2, toks := tk2 }) := by
    intro h2 tk2 m2 led2 x oT2 kvs vs lc cod F2 N2 old2 O T62 mm hres
    obtain ⟨cr62, N62, w62, p62⟩ := T62.own F2 b62 (Nat.ne_of_lt l38.2.2)
    have N3 := news_append N2 N62
    have S2 := (S1'.offT old2 hLT hLG l38 hsoff).push (led' := ((T, oT2) :: (G, W.listOf (List.toArray vs) lc) :: (cod ++ led2)) ++ cr62) fun q hq => List.mem_append_left _ (.tail _ (.tail _ (List.mem_append_right _ hq)))
    have hf62 : ∀ z ∈ cr62, ∃ fv, z.2.data = .fields fv := fun z hz => by
      rcases w62 z hz with e | r
      · obtain ⟨ps, hp, _⟩ := T62
        have h1 := (N62 z hz).1
        rw [e, hp] at h1
        exact ⟨_, by rw [← Option.some.inj h1]⟩
      · exact r.fields
    have hcod : CodOk base (((T, oT2) :: (G, W.listOf (List.toArray vs) lc) :: (cod ++ led2)) ++ cr62) := ⟨cod ++ cr62, fun z hz => by
      rcases List.mem_append.mp hz with q | q
      · exact ⟨List.mem_append_left _ (.tail _ (.tail _ (List.mem_append_left _ q))), (O.nt z q).2.2, (O.who z q).imp id fun r => r.imp id .inr⟩
      · exact ⟨List.mem_append_right _ q, hf62 z q, .inr (.inr (w62 z q))⟩, fun h' st hH => ⟨(O.ok h' st fun z hz => hH z (List.mem_append_left _ hz)).1, (O.ok h' st fun z hz => hH z (List.mem_append_left _ hz)).2, p62 h' st fun z hz => hH z (List.mem_append_right _ hz)⟩⟩
    have S3 : LwT base L DU RO ST AR (setCv cv 7 (Value.ref SH)) va vk ((SH, tup3 KN T G) :: lwStuff ST RO AR DU sts rvs arvs c1 c2 c3 oD stuffK) m2 (((T, oT2) :: (G, W.listOf (List.toArray vs) lc) :: (cod ++ led2)) ++ cr62) := by
      refine ⟨S2, S.v3, S.v5, S.v6, ?_, ?_, ?_, hcod⟩
      · rw [mm _ (by decide) (by decide) (by decide)]; exact S.ma
      · rw [mm _ (by decide) (by decide) (by decide)]; exact S.mva
      · rw [mm _ (by decide) (by decide) (by decide)]; exact S.mvk
    refine lw_rest bs B hh hroom hu l38 KP big hD hDUd hrs hlen hsi hrc hrD hrk F2 N3 S3 rfl hLS sT ?_ (.head _) (.tail _ (.head _)) O ?_ ?_
    · rw [mm _ (by decide) (by decide) (by decide)]; exact mk
    · rcases hres with q | ⟨y, yt, a, ot, nt, q1, q2, q3, q4⟩
      · exact .inl q
      · exact .inr ⟨y, yt, a, ot, nt, q1, q2, List.mem_append_left _ (.tail _ (.tail _ (List.mem_append_right _ q3))), q4⟩
    · intro h4 tk4 m4 led4 F4 N4 S4 sub4
      refine kk h4 tk4 m4 led4 _ F4 N4 S4 fun q hq hl => sub4 q (List.mem_append_left _ (.tail _ (.tail _ (List.mem_append_right _ (old2 q (old1 q hq (Nat.ne_of_gt hl)) ?_)))))
      simp only [offS, List.mem_cons, List.not_mem_nil, or_false, not_or]
      exact ⟨(nTG q hq).1, (nTG q hq).2, L38 hl⟩
  refine stop_cons ?_
  refine lw_try bs C50 C62 b50 b62 kf B hh hroom hu F1 N1 I harvs hln hva hvk hnl hD KP.hr KP.cell hclean KP.due KP.ks S.ma S.mva S.mvk ?_ ?_
  · intro h2 tk2 m2 led2 x tt oT2 kvs vs lc cod hf F2 N2 old2 O T62 mm mt
    exact fin h2 tk2 m2 led2 x oT2 kvs vs lc cod F2 N2 old2 O T62 (fun z a b _ => mm z a b) (.inl ⟨hf, tt, mt⟩)
  · intro h2 tk2 m2 led2 x y yt a ot nt oT2 kvs vs lc cod hf F2 N2 old2 O T62 mm mmi ha q1 q2
    exact fin h2 tk2 m2 led2 x oT2 kvs vs lc cod F2 N2 old2 O T62 mm (.inr ⟨y, yt, a, ot, nt, hf, mmi, ha, q1, q2⟩)
end
end Mine
end -- W13
section -- W14
open PySem PySem.W PyProof.Rows PySem.Calls PySem.Spec
set_option maxHeartbeats 8000000
namespace Mine
variable {w : World} {base : Heap} {p : Program} {loose : List Str} {mean : ExcName → Option Value} {mg mb : Str → Option Value}
/-! law's last loop: what it walks -/
noncomputable def forIter : Stmt → PySem.Expr
  | .For _ it _ _ _ => it
  | _ => default
noncomputable def keptComp : PySem.Expr := callNth (callNth (tupNth (forIter lwFor) 1) 0) 0
noncomputable def keptCl (L : Addr) : List (Str × Addr) := [(Str.ofString "sums", L + 4), (Str.ofString "numbers", L + 1), (Str.ofString "cells", L + 2)]
theorem sums_known {xs : List Int} {own : List (Addr × Obj)} {kvs : List (Str × Value)} {ks : List Nat} (h : Rel2 (SumAt xs own) kvs ks) (n : Str) :
    (∀ k ∈ ks, k < 66 → n = cname k → (∀ j ∈ ks, j < 66) → ∃ tup al t avs c, valueAt kvs n = some (Value.ref tup) ∧ (tup, addTup al (bvN xs k) t) ∈ own ∧ (al, W.listOf (List.toArray avs) c) ∈ own ∧ StrsAre avs ((idxs xs k).map cname)) ∧ ((∀ k ∈ ks, n ≠ cname k) → valueAt kvs n = none) := by
  induction h with
  | nil => exact ⟨fun _ h => (nomatch h), fun _ => rfl⟩
  | @cons kv k' kvs ks p _ ih =>
    obtain ⟨k, v⟩ := kv
    obtain ⟨p1, tup, al, t, avs, c, p2, p3, p4, p5⟩ := p
    dsimp only at p1 p2
    subst p1 p2
    by_cases e : cname k' = n
    · subst e
      refine ⟨fun k hk hk6 ek hj => ?_, fun h => absurd rfl (h _ (.head _))⟩
      obtain rfl := cname_inj (hj _ (.head _)) hk6 ek
      exact ⟨tup, al, t, avs, c, by simp [valueAt], p3, p4, p5⟩
    · have q : valueAt ((cname k', Value.ref tup) :: kvs) n = valueAt kvs n := by simp [valueAt, e]
      rw [q]
      refine ⟨fun k hk hk6 ek hj => ?_, fun h => ih.2 fun j hj => h j (.tail _ hj)⟩
      rcases List.mem_cons.mp hk with h | h
      · subst h; exact absurd ek.symm e
      · exact ih.1 k h hk6 ek fun j hj' => hj j (.tail _ hj')
theorem knP_of {xs : List Int} {own stuffK : List (Addr × Obj)} {kvs kvD : List (Str × Value)} {keep : Nat → Bool} {KN : Addr} {oK : Obj} (hl : xs.length ≤ 66) (hK : (KN, oK) ∈ stuffK) (hd : oK.IsDictOf (strKind PySem.Challenge.pw_dw0016_02 w) kvs) (sys : (KN == sysModules) = false) (ho : ∀ q ∈ own, q ∈ stuffK) (h : Rel2 (SumAt xs own) kvs (keptTo keep xs.length)) (hD : KvRel (dueS xs) kvD (nms xs.length)) :
    KnP w stuffK kvD KN (valueAt kvs) (knS xs keep) (bvS xs) (dueS xs) rkN := by
  have hk66 : ∀ j ∈ keptTo keep xs.length, j < 66 := fun j hj => by
    have := List.mem_range.mp (List.mem_filter.mp hj).1; omega
  have at' : ∀ n as, knS xs keep n = some as → n = cname (rkN n) ∧ rkN n ∈ keptTo keep xs.length ∧ rkN n < 66 ∧ as = (idxs xs (rkN n)).map cname := fun n as e => by
    obtain ⟨a, b, c⟩ := knS_some e
    exact ⟨(cname_rk (by omega)).symm, List.mem_filter.mpr ⟨List.mem_range.mpr a, b⟩, by omega, c⟩
  have ks : ∀ H, HoldsAll stuffK H → ∀ n as, knS xs keep n = some as → ∃ tup al t vs, valueAt kvs n = some (.ref tup) ∧ H.IsTuple tup #[.ref al, .int (bvS xs n) t] ∧ H.IsList al (List.toArray vs) ∧ StrsAre vs as := fun H hH n as e => by
    obtain ⟨a, b, c, d⟩ := at' n as e
    obtain ⟨tup, al, t, avs, cc, q1, q2, q3, q4⟩ := (sums_known h n).1 (rkN n) b c a hk66
    exact ⟨tup, al, t, avs, q1, ⟨_, hH _ (ho _ q2), rfl, _, rfl⟩, ⟨_, hH _ (ho _ q3), rfl, _, rfl⟩, by rw [d]; exact q4⟩
  refine ⟨fun H hH => ⟨(Heap.dictOf_iff.mpr ⟨oK, hH _ hK, hd⟩).mapOf, sys, fun n as e => ?_, fun n e => ?_, fun n as e => ?_, fun n as e a ha => (knS_adds hl e a ha).1⟩, ks, fun n as e a ha => (knS_adds hl e a ha).2, fun n as e => ?_, fun n as e a ha => (knS_adds hl e a ha).1, fun n as e => knS_due hl e, fun n as e => ?_⟩
  · obtain ⟨tup, al, t, vs, q⟩ := ks H hH n as e
    exact ⟨tup, al, t, vs, _, q⟩
  · refine (sums_known h n).2 fun k hk e' => ?_
    obtain ⟨a, b⟩ := List.mem_filter.mp hk
    have a := List.mem_range.mp a
    subst e'
    unfold knS at e
    rw [rkN_cname (by omega), if_pos ⟨a, b⟩] at e
    cases e
  · rw [(at' n as e).2.2.2, List.length_map]; exact idxs_len _ _
  · rw [(at' n as e).1]; exact cname_mem (at' n as e).2.2.1
  · have a := (knS_some e).1
    refine (hD.at n).1 ?_
    rw [(at' n as e).1]
    exact List.mem_map.mpr ⟨rkN n, List.mem_range.mpr a, rfl⟩
section
local macro_rules | `(tactic| walk_at "eval Name") => `(tactic| first
  | (refine lcf_cell (by assumption) (by rfl) (List.Mem.tail _ (List.Mem.head _)) (by assumption) ?_ (by rfl) (by rfl))
  | (refine lcf_cell (by assumption) (by rfl) (List.Mem.tail _ (List.Mem.tail _ (List.Mem.head _))) (by assumption) ?_ (by rfl) (by rfl))
  | (refine LCgL.ld_own (by assumption) (List.Mem.head _) (by assumption) (by assumption) ?_))
local macro_rules | `(tactic| walk_at "subscriptTail Name Name ref int") => `(tactic| refine Mine.Stop.mk ?_)
local macro_rules | `(tactic| walk_at "subscriptTail Name Subscript ref str") => `(tactic| refine Mine.Stop.mk ?_)
variable {A : Around} {E : Value → Shared → Prop} {s : Shared} {L C NU CE SU fa : Addr} {m₃ : Str → Option Value} {c1 c2 c4 oC oS : Obj} {x : Int} {y : Str} {xt t1 t2 tk : Tok} {h₀ : Heap} {f : Str → Option Value} {k c cc : Nat} {nv cvs : List Value} {m : Str → Option Value} {v : Value}
theorem kept_test (X : (hd2.heap_39 w.params).In h₀) (Tp : Top p loose mean mg mb h₀) (hh : A.handled = none) (hroom : A.depth + 10 < recursionLimit) (hu : A.units + 100 < cLine) (F : Fr h₀ L s.heap m) (N : News h₀ L s.heap ((C, oC) :: (L + 1, c1) :: (NU, W.listOf (List.toArray nv) c) :: [])) (hC : LCg.NsObj oC m₃) (d1 : c1.data = .cell (some (.ref NU))) (hk : m₃ (Str.ofString "k") = some (Value.int (k : Int) tk)) (hk6 : k < 1000)
    (hn : nv[k]? = some (.int x t1)) :
    wpAny (model PySem.Challenge.pw_dw0016_02 w) (A.deeper (lwEnv L fa (.ref 64))) (PySem.isTrue (compIf keptComp) (compEnvC (compScope keptComp) (keptCl L) C (lwEnv L fa (.ref 64))) (eval (compIf keptComp) (compEnvC (compScope keptComp) (keptCl L) C (lwEnv L fa (.ref 64)))))
      (fun ok s₄ => ok = decide (x.fmod 11 ≠ 4) ∧ ∃ h' tk, s₄ = { s with heap := h', toks := tk } ∧ s.heap.StaysIn h') E s := by
  dsimp only [Mine.lwEnv, Mine.keptCl]
  conv in (occs := *) (Mine.stScope Mine.lwStmt) => all_goals whnf
  conv in (occs := *) (compIf keptComp) => all_goals whnf
  conv in (occs := *) (compScope keptComp) => all_goals whnf
  k_steps
  show wpAny _ _ (subscriptTail _ _ _ _) _ _ _
  refine item_M (i := k) (by assumption) (.tail _ (.tail _ (.head _))) (by omega) hn ?_
  k_steps
  · by_cases h : x.fmod 11 = 4 <;> simp [h]
  · exact fun b o e => e
theorem kept_elt (X : (hd2.heap_39 w.params).In h₀) (Tp : Top p loose mean mg mb h₀) (hh : A.handled = none) (hroom : A.depth + 10 < recursionLimit) (hu : A.units + 100 < cLine) (F : Fr h₀ L s.heap m) (N : News h₀ L s.heap ((C, oC) :: (L + 2, c2) :: (L + 4, c4) :: (CE, W.listOf (List.toArray cvs) cc) :: [])) (hC : LCg.NsObj oC m₃) (d2 : c2.data = .cell (some (.ref CE))) (d4 : c4.data = .cell (some (.ref SU))) (hk : m₃ (Str.ofString "k") = some (Value.int (k : Int) tk)) (hk6 : k < 1000)
    (hc : cvs[k]? = some (.str y xt)) (hm : s.heap.MapOf (PySem.strKind PySem.Challenge.pw_dw0016_02 w) SU f) (hf : f y = some v) :
    wpAny (model PySem.Challenge.pw_dw0016_02 w) (A.deeper (lwEnv L fa (.ref 64))) (eval (compElt keptComp) (compEnvC (compScope keptComp) (keptCl L) C (lwEnv L fa (.ref 64)))) (PairOut s y xt v) E s := by
  dsimp only [Mine.lwEnv, Mine.keptCl]
  conv in (occs := *) (Mine.stScope Mine.lwStmt) => all_goals whnf
  conv in (occs := *) (compElt keptComp) => all_goals whnf
  conv in (occs := *) (compScope keptComp) => all_goals whnf
  refine wpAny_Tuple ?_
  k_steps
  show wpAny _ _ (subscriptTail _ _ _ _) _ _ _
  refine item_M (i := k) (by assumption) (.tail _ (.tail _ (.tail _ (.head _)))) (by omega) hc ?_
  k_steps
  show wpAny _ _ (subscriptTail _ _ _ _) _ _ _
  refine item_M (i := k) (by assumption) (.tail _ (.tail _ (.tail _ (.head _)))) (by omega) hc ?_
  k_steps
  show wpAny _ _ (subscriptTail _ _ _ _) _ _ _
  refine dict_at hm hf ?_
  k_steps
  exact ⟨_, _, _, rfl, rfl, fun b o e => Heap.get?_push_of_some _ e, Nat.le_refl _, Heap.get?_push_size _ rfl⟩
end
end Mine
end -- W14
section -- W15
open PySem PySem.W PyProof.Rows PySem.Calls PySem.Spec
set_option maxHeartbeats 8000000
namespace Mine
variable {w : World} {base : Heap} {p : Program} {loose : List Str} {mean : ExcName → Option Value} {mg mb : Str → Option Value}
/-! law's last loop, whole -/
theorem rel2_map {α β : Type} {P : α → β → Prop} {g : β → α} : ∀ ks : List β, (∀ k ∈ ks, P (g k) k) → Rel2 P (ks.map g) ks
  | [], _ => .nil
  | k :: ks, h => .cons (h k (.head _)) (rel2_map ks fun j hj => h j (.tail _ hj))
theorem kept_lt {keep : Nat → Bool} {n k : Nat} (h : k ∈ keptTo keep n) : k < n ∧ keep k = true := by
  obtain ⟨a, b⟩ := List.mem_filter.mp h
  exact ⟨List.mem_range.mp a, b⟩
theorem kept_nodup {keep : Nat → Bool} {n : Nat} (hn : n ≤ 66) : ((keptTo keep n).map cname).Nodup := by
  refine List.pairwise_map.mpr (List.Pairwise.imp_of_mem (fun {a b} ha hb hne e => hne (cname_inj ?_ ?_ e)) (List.Pairwise.filter _ List.nodup_range))
  · have := kept_lt ha; omega
  · have := kept_lt hb; omega
noncomputable def keptKvs (kvs : List (Str × Value)) (ks : List Nat) : List (Str × Value) := ks.map fun k => (cname k, (valueAt kvs (cname k)).getD .none)
theorem kept_rel {xs : List Int} {own : List (Addr × Obj)} {kvs : List (Str × Value)} {keep : Nat → Bool} (hn : xs.length ≤ 66) (h : Rel2 (SumAt xs own) kvs (List.range xs.length)) : Rel2 (SumAt xs own) (keptKvs kvs (keptTo keep xs.length)) (keptTo keep xs.length) := by
  refine rel2_map _ fun k hk => ?_
  have hk' := (kept_lt hk).1
  obtain ⟨tup, al, t, avs, c, a, b⟩ := (sums_known h (cname k)).1 k (List.mem_range.mpr hk') (by omega) rfl fun j hj => by have := List.mem_range.mp hj; omega
  exact ⟨rfl, tup, al, t, avs, c, by simp [a], b⟩
theorem kept_pairs {prog : Program} {h : Heap} {kvs : List (Str × Value)} {ks : List Nat} {ys : List Value} {B₀ : Nat} {no : List Addr}
    (M : MadeG (fun _ _ => False) (fun i o => ∃ t, o = (⟨.type "tuple", none, .seq #[.str (cname i) t, (valueAt kvs (cname i)).getD .none] 0, #[]⟩ : Obj)) ks B₀ no h ys) : PairsIn (PySem.strKind prog w) h ys (keptKvs kvs ks) := by
  refine ⟨by rw [M.1, keptKvs, List.length_map], fun i k v e => ?_⟩
  rw [keptKvs, List.getElem?_map] at e
  obtain ⟨j, hj, e⟩ := Option.map_eq_some_iff.mp e
  cases e
  have hi : i < ys.length := by rw [M.1]; exact (List.getElem?_eq_some_iff.mp hj).1
  rcases M.2 i ys[i] j (List.getElem?_eq_getElem hi) hj with q | ⟨P, o, e1, _, e2, ⟨t, e3⟩, _⟩
  · exact q.elim
  · exact ⟨P, .str (cname j) t, 0, by rw [List.getElem?_eq_getElem hi, e1], by rw [e2, e3], strKind_is _ _ _ t⟩
local macro_rules | `(tactic| walk_at "nm val") => `(tactic| first | assumption | rfl | exact Mine.up_ne (by assumption) (by decide) | exact Mine.up_ne (Mine.up_ne (by assumption) (by decide)) (by decide))
local macro_rules | `(tactic| walk_at "lm") => `(tactic| first | assumption | exact List.Mem.tail _ (by assumption) | exact List.Mem.tail _ (List.Mem.tail _ (by assumption)) | exact List.Mem.tail _ (List.Mem.tail _ (List.Mem.tail _ (by assumption))))
local macro_rules | `(tactic| walk_at "eval Name") => `(tactic| first
  | (name_kind "local"; (rename Fr _ _ _ _ => F'); with_unfolding_all refine Mine.ldC F' (by walk_at "nm val") ?_)
  | (name_kind "cell"; (rename News _ _ _ _ => N'); with_unfolding_all refine Mine.ldCe N' (by rfl) (by walk_at "lm") (by assumption) ?_))
local macro_rules | `(tactic| walk_at "eval ListComp") => `(tactic| refine Mine.Stop.mk ?_)
local macro_rules | `(tactic| walk_at "call type:dict") => `(tactic| ((with_reducible show wpAny _ _ (call (Value.type _) _ _) _ _ _); refine Mine.Stop.mk ?_))
local macro_rules | `(tactic| walk_at "pyIter ref") => `(tactic| refine Mine.Stop.mk ?_)
local macro_rules | `(tactic| walk_at "call builtin:len cons nil") => `(tactic| refine Mine.Stop.mk ?_)
section
variable {A : Around} {s : Shared} {h : Heap} {L fa DU RO ST AR NU CE SU : Addr} {tk c1 c2 c3 c4 c5 : Nat} {m : Str → Option Value} {led own stuff0 : List (Addr × Obj)} {E : Value → Shared → Prop} {Q : Flow → Shared → Prop} {oD oS : Obj} {sts rvs arvs nv cvs : List Value} {kvD kvS : List (Str × Value)} {xs : List Int} {names : List Str} {oa ok : Option Str} {va vk : Value} {cv : Nat → Option Value}
theorem lw_last (bs : Base1 w base p loose mean mg mb) (C50 : CodeHd base 54 50) (C62 : CodeHd base 64 62) (b50 : base.get? 50 = none) (b62 : base.get? 62 = none) (kf : KeyFree p loose) (B : Below A base [] base) (hh : A.handled = none) (hroom : A.depth + 560 < recursionLimit) (hu : A.units + 9000 < cLine) (hE : PassesOwn (model PySem.Challenge.pw_dw0016_02 w) (A.deeper (lwEnv L fa (.ref 64))) (lwEnv L fa (.ref 64)) E) (l38 : 38 < L ∧ 50 < L ∧ 62 < L)
    (hlen : (favNames names oa ok).length ≤ 66) (hxl : xs.length ≤ 66) (hDUd : oD.IsDictOf (strKind PySem.Challenge.pw_dw0016_02 w) kvD) (hSUd : oS.IsDictOf (strKind PySem.Challenge.pw_dw0016_02 w) kvS) (hkD : KvRel (dueS xs) kvD (nms xs.length)) (hkS : Rel2 (SumAt xs own) kvS (List.range xs.length)) (sS : (SU == sysModules) = false) (hrs : StrsAre rvs (favNames names oa ok)) (harvs : StrsAre arvs names) (hva : VarIs va oa) (hvk : VarIs vk ok) (hsi : IntsAre sts (starsOf names oa ok)) (hrc : ∀ n ∈ favNames names oa ok, n ∈ nms xs.length) (hnv : IntsAre nv xs) (hcv : StrsAre cvs (nms xs.length))
    (F : Fr base L h m) (N : News base L h led) (S : LwC L cv stuff0 led) (v1 : cv 1 = some (.ref NU)) (v2 : cv 2 = some (.ref CE)) (v3 : cv 3 = some (.ref DU)) (v4 : cv 4 = some (.ref SU)) (v5 : cv 5 = some (.ref RO)) (v6 : cv 6 = some (.ref ST)) (ma : m (Str.ofString "args") = some (.ref AR)) (mva : m (Str.ofString "varargs") = some va) (mvk : m (Str.ofString "varkw") = some vk) (hcod : CodOk base led)
    (hst : ∀ q ∈ lwStuff ST RO AR DU sts rvs arvs c1 c2 c3 oD ((SU, oS) :: own), q ∈ stuff0 ∧ L + 7 < q.1) (hNU : (NU, W.listOf (List.toArray nv) c4) ∈ stuff0) (hCE : (CE, W.listOf (List.toArray cvs) c5) ∈ stuff0)
    (kk : ∀ h' tk' m' led', Fr base L h' m' → News base L h' led' → CodOk base led' → Q .next { s with heap := h', toks := tk' }) :
    wpAny (model PySem.Challenge.pw_dw0016_02 w) (A.deeper (lwEnv L fa (.ref 64))) (exec lwFor (lwEnv L fa (.ref 64))) Q E { s with heap := h, toks := tk } := by
  have X := bs.K
  have Tp := bs.T
  obtain ⟨co1, e1, d1⟩ := S.cells 1 (by decide) (by decide)
  obtain ⟨co2, e2, d2⟩ := S.cells 2 (by decide) (by decide)
  obtain ⟨co4, e4, d4⟩ := S.cells 4 (by decide) (by decide)
  rw [v1] at d1
  rw [v2] at d2
  rw [v4] at d4
  obtain ⟨hnl, hna⟩ := intsAre_at hnv
  have hcl : cvs.length = xs.length := by rw [hcv.1, nms_len]
  have hSU := S.sub _ (hst _ (.tail _ (.tail _ (.tail _ (.tail _ (.head _)))))).1
  have hNU' := S.sub _ hNU
  have hCE' := S.sub _ hCE
  dsimp only [Mine.lwEnv] at hE ⊢
  conv in (occs := *) (Mine.stScope Mine.lwStmt) => all_goals whnf
  conv in lwFor => whnf
  refine For_invV base rfl rfl ?_
  refine wpAny_Tuple ?_
  k_steps
  show wpAny _ _ (eval _ _) _ _ _
  refine comp_G (n := xs.length) (P := fun i v => ∃ t, v = Value.int (i : Int) t) (keep := fun i => decide ((xs.getD i 0).fmod 11 ≠ 4)) (V := fun _ _ => False) (G := fun i o => ∃ t, o = (⟨.type "tuple", none, .seq #[.str (cname i) t, (valueAt kvS (cname i)).getD .none] 0, #[]⟩ : Obj)) (cl := keptCl L) (B₀ := topOf L led) (K := fun h => Fr base L h m ∧ News base L h led) frameKept (by with_unfolding_all rfl) (by decide) rfl (by decide) rfl (by omega) ?_ (.inr ⟨_, rfl, ?_⟩) ?_ ?_
  · intro Q' kq
    k_steps
    refine len_M (j := xs.length) (by assumption) hCE' (by omega) hcl ?_
    k_steps
    show wpAny _ _ (pyIter _) _ _ _
    rename IsRange _ _ _ _ _ _ _ _ => hr
    refine pyIter_ranges hh (by omega) hr (fun I h₂ tk₂ fp St e1 e2 st hfp hI Wk hIs hS => ?_)
    exact kq I h₂ tk₂ fp St (by rw [← e1]; exact topOf_size (m := m) (h₀ := base) (by assumption) (by assumption)) e2 ⟨Fr.keeps (by assumption) st, News.keeps (by assumption) st⟩ hfp hI Wk hIs hS
  · rintro i v hi ⟨t, rfl⟩ C s₃ m₃ E' hC' hns hm₃ ⟨F₃, N₃⟩
    obtain ⟨oC, hoC, hNs⟩ := LCg.ns_obj hns
    have hCL : L < C := Nat.lt_of_lt_of_le (topOf_L L _) hC'
    obtain ⟨t1, hn⟩ := hna i (by omega)
    exact kept_test (s := s₃) (fa := fa) X Tp hh (by omega) (by omega) F₃ (news_cons ⟨hoC, Nat.ne_of_gt hCL, Heap.get?_none_of_le (Nat.le_trans F₃.above (Nat.le_of_lt hCL))⟩ (news_cons (N₃ _ e1) (news_cons (N₃ _ hNU') News.nil))) hNs d1 hm₃ (by omega) hn
  · rintro i v hi ⟨t, rfl⟩ _ C s₃ m₃ E' hC' hns hm₃ ⟨F₃, N₃⟩
    obtain ⟨oC, hoC, hNs⟩ := LCg.ns_obj hns
    have hCL : L < C := Nat.lt_of_lt_of_le (topOf_L L _) hC'
    obtain ⟨xt, hx⟩ := hcv.2 i (cname i) (nms_get hi)
    obtain ⟨tup, al, tt, avs, cc, hv, _⟩ := (sums_known hkS (cname i)).1 i (List.mem_range.mpr hi) (by omega) rfl fun j hj => by have := List.mem_range.mp hj; omega
    refine wpAny_mono (kept_elt (s := s₃) (w := w) (fa := fa) (E := E') X Tp hh (by omega) (by omega) F₃ (news_cons ⟨hoC, Nat.ne_of_gt hCL, Heap.get?_none_of_le (Nat.le_trans F₃.above (Nat.le_of_lt hCL))⟩ (news_cons (N₃ _ e2) (news_cons (N₃ _ e4) (news_cons (N₃ _ hCE') News.nil)))) hNs d2 d4 hm₃ (by omega) hx ((Heap.dictOf_iff (knd := PySem.strKind PySem.Challenge.pw_dw0016_02 w)).mpr ⟨oS, (N₃ _ hSU).1, hSUd⟩).mapOf hv) (fun r s₄ hr => ?_) fun _ _ e => e
    obtain ⟨h', tk', P, rfl, rfl, st, hge, hP⟩ := hr
    exact ⟨h', tk', rfl, st, .inr ⟨P, _, rfl, hge, hP, xt, by rw [hv]; rfl⟩⟩
  · intro D' h' tk' ys c'' hB ⟨F', N'⟩ hg M
    have hkb := kept_pairs (prog := PySem.Challenge.pw_dw0016_02) (w := w) M
    have hkl : (keptKvs kvS (keptTo (fun i => decide ((xs.getD i 0).fmod 11 ≠ 4)) xs.length)).length ≤ 66 := by
      rw [keptKvs, List.length_map]
      exact Nat.le_trans (keptTo_len _ _) hxl
    have hkeys : (keptKvs kvS (keptTo (fun i => decide ((xs.getD i 0).fmod 11 ≠ 4)) xs.length)).map (·.1) = (keptTo (fun i => decide ((xs.getD i 0).fmod 11 ≠ 4)) xs.length).map cname := by
      rw [keptKvs, List.map_map]; rfl
    have hrel := kept_rel (keep := fun i => decide ((xs.getD i 0).fmod 11 ≠ 4)) hxl hkS
    generalize keptKvs kvS (keptTo (fun i => decide ((xs.getD i 0).fmod 11 ≠ 4)) xs.length) = kb at hkb hkl hkeys hrel
    k_steps
    show wpAny _ _ (call _ _ _) _ _ _
    refine dict_pairs hh hg hkb (by rw [hkeys]; exact kept_nodup hxl) (by have : sizeLine = 2 ^ 24 := rfl; omega) fun h₅ tk₅ hDct st₅ => ?_
    have sB : (h'.objs.size == sysModules) = false := F'.notModules (modules_low bs.T.nolimit)
    obtain ⟨oK, hoK, hKd⟩ := (Heap.dictOf_iff (knd := PySem.strKind PySem.Challenge.pw_dw0016_02 w)).mp hDct
    have ltK : ∀ q ∈ led, q.1 < h'.objs.size := fun q hq => Heap.lt_size (N' q hq).1
    have hLK : L < h'.objs.size := F'.ns.lt
    have F₅ := F'.keeps st₅
    have N₅ := news_cons (q := (h'.objs.size, oK)) ⟨hoK, Nat.ne_of_gt hLK, Heap.get?_none_of_le (Nat.le_trans F'.above (Nat.le_of_lt hLK))⟩ (N'.keeps st₅)
    generalize h'.objs.size = K2 at *
    clear F' N'
    k_steps
    show wpAny _ _ (pyIter _) _ _ _
    have lK : L + 7 < K2 := S.above ltK
    have lT : K2 < h₅.objs.size := Heap.lt_size hoK
    have F₆ := F₅.push (⟨.type "tuple", none, .seq #[Value.ref SU, Value.ref K2] 0, #[]⟩ : Obj)
    have N₆ : News base L _ ((h₅.objs.size, (⟨.type "tuple", none, .seq #[Value.ref SU, Value.ref K2] 0, #[]⟩ : Obj)) :: (K2, oK) :: led) := news_cons (q := (h₅.objs.size, (⟨.type "tuple", none, .seq #[Value.ref SU, Value.ref K2] 0, #[]⟩ : Obj))) (h := h₅.push (⟨.type "tuple", none, .seq #[Value.ref SU, Value.ref K2] 0, #[]⟩ : Obj)) ⟨Heap.get?_push_size _ rfl, Nat.ne_of_gt F₅.ns.lt, next_is_new F₅⟩ fun q hq => ⟨Heap.get?_push_of_some _ (N₅ q hq).1, (N₅ q hq).2⟩
    have S₁ := ((S.less (stuff' := lwStuff ST RO AR DU sts rvs arvs c1 c2 c3 oD ((SU, oS) :: own)) fun q hq => (hst q hq).1).push (led' := (h₅.objs.size, (⟨.type "tuple", none, .seq #[Value.ref SU, Value.ref K2] 0, #[]⟩ : Obj)) :: (K2, oK) :: led) fun q hq => .tail _ (.tail _ hq)).add (q := (K2, oK)) (.tail _ (.head _)) lK
    have S₂ := S₁.add (q := (h₅.objs.size, (⟨.type "tuple", none, .seq #[Value.ref SU, Value.ref K2] 0, #[]⟩ : Obj))) (.head _) (Nat.lt_trans lK lT)
    have hcod₂ : CodOk base ((h₅.objs.size, (⟨.type "tuple", none, .seq #[Value.ref SU, Value.ref K2] 0, #[]⟩ : Obj)) :: (K2, oK) :: led) := hcod.push fun q hq _ => .tail _ (.tail _ hq)
    have lTT := Nat.lt_trans lK lT
    generalize htp : h₅.objs.size = TP at *
    generalize htu : (⟨.type "tuple", none, .seq #[Value.ref SU, Value.ref K2] 0, #[]⟩ : Obj) = tu at *
    have S₃ := S₂.less (stuff' := lwStuff ST RO AR DU sts rvs arvs c1 c2 c3 oD ((TP, tu) :: (K2, oK) :: (SU, oS) :: own)) fun q hq => by
      simp only [lwStuff, List.mem_cons] at hq ⊢
      rcases hq with h | h | h | h | h | h | h | h <;> simp only [h, true_or, or_true]
    have big : ∀ q ∈ lwStuff ST RO AR DU sts rvs arvs c1 c2 c3 oD ((TP, tu) :: (K2, oK) :: (SU, oS) :: own), L + 7 < q.1 := fun q hq => by
      simp only [lwStuff, List.mem_cons] at hq
      have hst' : ∀ q ∈ lwStuff ST RO AR DU sts rvs arvs c1 c2 c3 oD ((SU, oS) :: own), L + 7 < q.1 := fun q hq => (hst q hq).2
      simp only [lwStuff, List.mem_cons] at hst'
      rcases hq with h | h | h | h | h | h | h | h
      · exact hst' q (by simp only [h, true_or, or_true])
      · exact hst' q (by simp only [h, true_or, or_true])
      · exact hst' q (by simp only [h, true_or, or_true])
      · exact hst' q (by simp only [h, true_or, or_true])
      · rw [h]; exact lTT
      · rw [h]; exact lK
      · exact hst' q (by simp only [h, true_or, or_true])
      · exact hst' q (by simp only [h, true_or, or_true])
    have hrc' : ∀ n ∈ favNames names oa ok, ∃ j, j < xs.length ∧ n = cname j := fun n hn => by
      obtain ⟨j, hj, e⟩ := List.mem_map.mp (hrc n hn)
      exact ⟨j, List.mem_range.mp hj, e.symm⟩
    have KS : KnP w ((TP, tu) :: (K2, oK) :: (SU, oS) :: own) kvD SU (valueAt kvS) (knS xs fun _ => true) (bvS xs) (dueS xs) rkN := knP_of hxl (.tail _ (.tail _ (.head _))) hSUd sS (fun q hq => .tail _ (.tail _ (.tail _ hq))) (by rw [keptTo_all]; exact hkS) hkD
    have KK : KnP w ((TP, tu) :: (K2, oK) :: (SU, oS) :: own) kvD K2 (valueAt kb) (knS xs fun i => decide ((xs.getD i 0).fmod 11 ≠ 4)) (bvS xs) (dueS xs) rkN := knP_of hxl (.tail _ (.head _)) hKd sB (fun q hq => .tail _ (.tail _ (.tail _ hq))) hrel hkD
    clear F₅ N₅ S₁ S₂
    refine tup_loop (vs := #[Value.ref SU, Value.ref K2]) (c := 0) (fun i m nw => ∃ cv', LwT base L DU RO ST AR cv' va vk (lwStuff ST RO AR DU sts rvs arvs c1 c2 c3 oD ((TP, tu) :: (K2, oK) :: (SU, oS) :: own)) m nw) hh (by rw [htu]; exact .head _) F₆ N₆ (fun i m nw ⟨cv', J⟩ => by rw [htu]; exact J.C.sub _ (.tail _ (.tail _ (.tail _ (.tail _ (.head _)))))) ⟨cv, S₃, v3, v5, v6, ma, mva, mvk, hcod₂⟩ ?_ ?_
    · rintro i v m₁ nw₁ h tk I io hI ⟨j, hio⟩ hv ⟨cv', J⟩ hne F₁ N₁
      obtain ⟨KN, f, kn, rfl, KP⟩ : ∃ KN f kn, v = Value.ref KN ∧ KnP w ((TP, tu) :: (K2, oK) :: (SU, oS) :: own) kvD KN f kn (bvS xs) (dueS xs) rkN := by
        match i, hv with
        | 0, hv => exact ⟨SU, _, _, (Option.some.inj hv).symm, KS⟩
        | 1, hv => exact ⟨K2, _, _, (Option.some.inj hv).symm, KK⟩
        | n + 2, hv => simp at hv
      have hTI : TP < I := by rw [hI]; exact Heap.lt_size (N₆ _ (.head _)).1
      have hLI : L + 7 < I := Nat.lt_trans lTT hTI
      have hL : L < I := Nat.lt_of_le_of_lt (Nat.le_add_right L 7) hLI
      have hcI : ∀ j, 1 ≤ j → j ≤ 7 → L + j ≠ I := fun j a b => let ⟨co, x, _⟩ := J.C.cells j a b; hne _ x
      have J' : LwT base L DU RO ST AR cv' va vk (lwStuff ST RO AR DU sts rvs arvs c1 c2 c3 oD ((TP, tu) :: (K2, oK) :: (SU, oS) :: own)) (fun y => if y = Str.ofString "known" then some (Value.ref KN) else m₁ y) ((I, io) :: nw₁) := by
        refine ⟨J.C.push fun q hq => .tail _ hq, J.v3, J.v5, J.v6, ?_, ?_, ?_, J.cod.push fun q hq _ => .tail _ hq⟩
        · show (if Str.ofString "args" = Str.ofString "known" then _ else _) = _
          rw [if_neg (by decide)]; exact J.ma
        · show (if Str.ofString "varargs" = Str.ofString "known" then _ else _) = _
          rw [if_neg (by decide)]; exact J.mva
        · show (if Str.ofString "varkw" = Str.ofString "known" then _ else _) = _
          rw [if_neg (by decide)]; exact J.mvk
      show wpAny _ _ (execs (nth (stLoopB lwFor) 0 :: nth (stLoopB lwFor) 1 :: nth (stLoopB lwFor) 2 :: nth (stLoopB lwFor) 3 :: nth (stLoopB lwFor) 4 :: []) (lwEnv L fa (.ref 64))) _ _ _
      refine lw_turn (s := s) bs C50 C62 b50 b62 kf B hh hroom hu l38 KP big (dueS_le xs) hDUd hrs harvs hva hvk hlen hsi (fun n hn => let ⟨j, a, e⟩ := hrc' n hn; e ▸ cname_mem (by omega)) (fun n hn => (hkD.at n).1 (hrc n hn)) (fun n _ => Nat.lt_succ_of_le (rkN_le n)) F₁ N₁ J' (if_pos rfl) ?_
      intro h' tk' m' led' cv'' F' N' S4 hk
      have hIo : h'.get? I = some io := (N' _ (hk (I, io) (.head _) hLI)).1
      refine ⟨h', tk', m', led'.filter fun q => decide (q.1 ≠ I), rfl, F', news_cons (N' _ (hk (I, io) (.head _) hLI)) (news_sub N' fun z hz => (List.mem_filter.mp hz).1), fun q hq => by simpa using (List.mem_filter.mp hq).2, cv'', S4.C.drop hcI fun q hq => hne q (J.C.sub q hq), S4.v3, S4.v5, S4.v6, S4.ma, S4.mva, S4.mvk, S4.cod.push fun q hq hw => List.mem_filter.mpr ⟨hq, decide_eq_true fun e => ?_⟩⟩
      rcases hw with z | z | z | z
      · exact Nat.ne_of_gt (Nat.lt_trans l38.1 hL) (e ▸ z)
      · exact Nat.ne_of_gt (Nat.lt_trans l38.2.1 hL) (e ▸ z)
      · exact Nat.ne_of_gt (Nat.lt_trans l38.2.2 hL) (e ▸ z)
      · obtain ⟨qq, fv, t, z1, z2⟩ := z
        have h1 := (N' q hq).1
        rw [e, hIo] at h1
        rw [← Option.some.inj h1, hio] at z1
        cases z1
        simp at z2
    · rintro m₁ nw₁ h' tk' ⟨cv', J⟩ F' N'
      exact kk h' tk' m₁ nw₁ F' N' J.cod
end
end Mine
end -- W15
section -- W16
open PySem PySem.W PyProof.Rows PySem.Calls PySem.Spec
set_option maxHeartbeats 8000000
namespace Mine
variable {w : World} {base : Heap} {p : Program} {loose : List Str} {mean : ExcName → Option Value} {mg mb : Str → Option Value}
/-! law 02, whole -/
theorem strs_snoc {vs : List Value} {ns : List Str} (h : StrsAre vs ns) (hne : ns ≠ []) : ∃ vs' x t ns', vs = vs' ++ [Value.str x t] ∧ ns = ns' ++ [x] ∧ StrsAre vs' ns' := by
  have hl : ns.length ≠ 0 := fun e => hne (List.length_eq_zero_iff.mp e)
  have hv : vs ≠ [] := fun e => hl (by rw [← h.1, e]; rfl)
  have h1 := List.dropLast_concat_getLast hne
  have h2 := List.dropLast_concat_getLast hv
  have e1 : ns[ns.length - 1]? = some (ns.getLast hne) := by rw [← List.getLast?_eq_getElem?, List.getLast?_eq_some_getLast hne]
  have e2 : vs[vs.length - 1]? = some (vs.getLast hv) := by rw [← List.getLast?_eq_getElem?, List.getLast?_eq_some_getLast hv]
  obtain ⟨t, e3⟩ := h.2 _ _ e1
  rw [← h.1, e2] at e3
  refine ⟨vs.dropLast, ns.getLast hne, t, ns.dropLast, ?_, h1.symm, ?_⟩
  · rw [← Option.some.inj e3]; exact h2.symm
  · rw [List.dropLast_eq_take, List.dropLast_eq_take, h.1]
    exact h.takes _
theorem cname_pos {k : Nat} : 0 < (cname k).length := by
  rw [cname, Str.length_append, show (Str.ofString "c").length = 1 from rfl]; omega
theorem nms_pos {n : Nat} {x : Str} (hn : n ≤ 66) (h : x ∈ nms n) : 0 < x.length ∧ x.length ≤ 100 := by
  obtain ⟨j, hj, rfl⟩ := List.mem_map.mp h
  have := List.mem_range.mp hj
  exact ⟨cname_pos, (cells_clean _ (cname_mem (by omega))).2⟩
theorem cod_start {led : List (Addr × Obj)} (h50 : (50, tabObj #[]) ∈ led) (h38 : (38, tabObj #[]) ∈ led) (h62 : (62, tabObj #[]) ∈ led) : CodOk base led :=
  ⟨[(50, tabObj #[]), (38, tabObj #[]), (62, tabObj #[])], List.forall_mem_cons.mpr ⟨⟨h50, ⟨_, rfl⟩, .inr (.inl rfl)⟩, List.forall_mem_cons.mpr ⟨⟨h38, ⟨_, rfl⟩, .inl rfl⟩, List.forall_mem_cons.mpr ⟨⟨h62, ⟨_, rfl⟩, .inr (.inr (.inl rfl))⟩, fun _ h => nomatch h⟩⟩⟩,
    fun h' _ hH => ⟨.inl (hH (38, tabObj #[]) (.tail _ (.head _))), .inl (hH (50, tabObj #[]) (.head _)), TabT.nil (hH (62, tabObj #[]) (.tail _ (.tail _ (.head _))))⟩⟩
noncomputable def Tabs (h : Heap) : Prop := (∃ ps, h.get? 50 = some (tabObj ps)) ∧ (∃ ps, h.get? 38 = some (tabObj ps)) ∧ ∃ ps, h.get? 62 = some (tabObj ps)
theorem CodOk.tabs {h : Heap} {L : Addr} {m : Str → Option Value} {led : List (Addr × Obj)} (C : CodOk base led) (F : Fr base L h m) (N : News base L h led) : Tabs h := by
  obtain ⟨cod, a, b⟩ := C
  obtain ⟨x, y, z⟩ := b h F.keep fun q hq => (N q (a q hq).1).1
  obtain ⟨ps, e, _⟩ := x.tab
  obtain ⟨qs, e', _⟩ := y.tab
  obtain ⟨rs, e'', _⟩ := z
  exact ⟨⟨_, e'⟩, ⟨_, e⟩, ⟨_, e''⟩⟩
section
variable {A : Around} {fr : List Env} {s : Shared} {h : Heap} {L fa AR : Addr} {cd : Value} {tk c : Nat} {m : Str → Option Value} {led stuff : List (Addr × Obj)} {E : Value → Shared → Prop} {Q : Flow → Shared → Prop} {arvs : List Value} {ns : List Str} {cv : Nat → Option Value} {wv : Int} {tw : Tok}
theorem lw6 (X : (hd2.heap_39 w.params).In base) (T : Top p loose mean mg mb base) (B : Below A base fr base) (hh : A.handled = none) (hroom : A.depth + 1 < recursionLimit) (hu : A.units + 60 < cLine)
    (F : Fr base L h m) (N : News base L h led) (S : LwC L cv ((AR, W.listOf (List.toArray arvs) c) :: stuff) led) (hAR : L + 7 < AR) (hne : ∀ q ∈ stuff, q.1 ≠ AR) (ha : StrsAre arvs ns) (hns : ns ≠ []) (hl : ns.length ≤ 100) (hp : ∀ x ∈ ns, 0 < x.length ∧ x.length ≤ 100) (mw : m (Str.ofString "way") = some (.int wv tw)) (ma : m (Str.ofString "args") = some (.ref AR))
    (kk : ∀ h' tk' m' led' vk ok ns' arvs' c', Fr base L h' m' → News base L h' led' → LwC L cv ((AR, W.listOf (List.toArray arvs') c') :: stuff) led' → StrsAre arvs' ns' → ns = ns' ++ ok.toList → VarIs vk ok → ok.toList.length = (if 2 ≤ wv then 1 else 0) → m' (Str.ofString "varkw") = some vk → (∀ z, z ≠ Str.ofString "varkw" → m' z = m z) → (∀ q ∈ led, (∃ vs, q.2.data = .fields vs) → q ∈ led') → Q .next { s with heap := h', toks := tk' }) :
    wpAny (model PySem.Challenge.pw_dw0016_02 w) (A.deeper (lwEnv L fa cd)) (exec (nth lwBody 6) (lwEnv L fa cd)) Q E { s with heap := h, toks := tk } := by
  by_cases hw : 2 ≤ wv
  · obtain ⟨vs', x, t, ns', rfl, rfl, ha'⟩ := strs_snoc ha hns
    have hl' : vs'.length ≤ 1000 := by rw [ha'.1]; simp at hl; omega
    refine lw6y X T B hh hroom hu F N mw hw ma (S.sub _ (.head _)) hl' fun h' tk' led' F' N' Tu => ?_
    refine kk h' tk' _ led' (.str x t) (some x) ns' vs' (c + 1) F' N' (S.turn Tu hAR fun q hq => ?_) ha' rfl (.inr ⟨x, t, rfl, rfl, hp x (by simp)⟩) (by rw [if_pos hw]; rfl) (if_pos rfl) (fun z hz => if_neg hz) fun q hq ⟨fv, e⟩ => Tu.old q hq fun e' => ?_
    · rcases List.mem_cons.mp hq with rfl | hq
      · exact .inl rfl
      · exact .inr ⟨.tail _ hq, hne q hq⟩
    · have h1 := (N q hq).1
      have h2 : h.get? AR = some _ := (N _ (S.sub _ (.head _))).1
      rw [e', h2] at h1
      rw [← Option.some.inj h1] at e
      cases e
  · refine lw6n X T B hh hroom hu F N mw hw fun h' tk' F' N' => ?_
    exact kk h' tk' _ led .none none ns arvs c F' N' S ha (by simp) (.inl ⟨rfl, .inl rfl⟩) (by rw [if_neg hw]; rfl) (if_pos rfl) (fun z hz => if_neg hz) fun q hq _ => hq
theorem lw7 (X : (hd2.heap_39 w.params).In base) (T : Top p loose mean mg mb base) (B : Below A base fr base) (hh : A.handled = none) (hroom : A.depth + 1 < recursionLimit) (hu : A.units + 60 < cLine)
    (F : Fr base L h m) (N : News base L h led) (S : LwC L cv ((AR, W.listOf (List.toArray arvs) c) :: stuff) led) (hAR : L + 7 < AR) (hne : ∀ q ∈ stuff, q.1 ≠ AR) (ha : StrsAre arvs ns) (hns : ns ≠ []) (hl : ns.length ≤ 100) (hp : ∀ x ∈ ns, 0 < x.length ∧ x.length ≤ 100) (mw : m (Str.ofString "way") = some (.int wv tw)) (ma : m (Str.ofString "args") = some (.ref AR))
    (kk : ∀ h' tk' m' led' vk ok ns' arvs' c', Fr base L h' m' → News base L h' led' → LwC L cv ((AR, W.listOf (List.toArray arvs') c') :: stuff) led' → StrsAre arvs' ns' → ns = ns' ++ ok.toList → VarIs vk ok → ok.toList.length = (if wv.fmod 2 = 1 then 1 else 0) → m' (Str.ofString "varargs") = some vk → (∀ z, z ≠ Str.ofString "varargs" → m' z = m z) → (∀ q ∈ led, (∃ vs, q.2.data = .fields vs) → q ∈ led') → Q .next { s with heap := h', toks := tk' }) :
    wpAny (model PySem.Challenge.pw_dw0016_02 w) (A.deeper (lwEnv L fa cd)) (exec (nth lwBody 7) (lwEnv L fa cd)) Q E { s with heap := h, toks := tk } := by
  by_cases hw : wv.fmod 2 = 1
  · obtain ⟨vs', x, t, ns', rfl, rfl, ha'⟩ := strs_snoc ha hns
    have hl' : vs'.length ≤ 1000 := by rw [ha'.1]; simp at hl; omega
    refine lw7y X T B hh hroom hu F N mw hw ma (S.sub _ (.head _)) hl' fun h' tk' led' F' N' Tu => ?_
    refine kk h' tk' _ led' (.str x t) (some x) ns' vs' (c + 1) F' N' (S.turn Tu hAR fun q hq => ?_) ha' rfl (.inr ⟨x, t, rfl, rfl, hp x (by simp)⟩) (by rw [if_pos hw]; rfl) (if_pos rfl) (fun z hz => if_neg hz) fun q hq ⟨fv, e⟩ => Tu.old q hq fun e' => ?_
    · rcases List.mem_cons.mp hq with rfl | hq
      · exact .inl rfl
      · exact .inr ⟨.tail _ hq, hne q hq⟩
    · have h1 := (N q hq).1
      have h2 : h.get? AR = some _ := (N _ (S.sub _ (.head _))).1
      rw [e', h2] at h1
      rw [← Option.some.inj h1] at e
      cases e
  · refine lw7n X T B hh hroom hu F N mw hw fun h' tk' t F' N' => ?_
    exact kk h' tk' _ led (.str (Str.ofString "") t) none ns arvs c F' N' S ha (by simp) (.inl ⟨rfl, .inr ⟨t, rfl⟩⟩) (by rw [if_neg hw]; rfl) (if_pos rfl) (fun z hz => if_neg hz) fun q hq _ => hq
end
end Mine
end -- W16
section -- W17
open PySem PySem.W PyProof.Rows PySem.Calls PySem.Spec
set_option maxHeartbeats 8000000
namespace Mine
variable {w : World} {base : Heap} {p : Program} {loose : List Str} {mean : ExcName → Option Value} {mg mb : Str → Option Value}
section
variable {A : Around} {s : Shared} {h : Heap} {L fa sc : Addr} {tk : Nat} {m : Str → Option Value} {led : List (Addr × Obj)} {E : Value → Shared → Prop} {Q : Flow → Shared → Prop} {vs : List Value} {ns : List Int}
theorem lw_all (bs : Base1 w base p loose mean mg mb) (C50 : CodeHd base 54 50) (C62 : CodeHd base 64 62) (b50 : base.get? 50 = none) (b62 : base.get? 62 = none) (kf : KeyFree p loose) (B : Below A base [] base) (hh : A.handled = none) (hroom : A.depth + 560 < recursionLimit) (hu : A.units + 9000 < cLine) (hE : PassesOwn (model PySem.Challenge.pw_dw0016_02 w) (A.deeper (lwEnv L fa (.ref 64))) (lwEnv L fa (.ref 64)) E) (l38 : 38 < L ∧ 50 < L ∧ 62 < L)
    (F : Fr base L h m) (N : News base L h led) (S : LwC L (fun _ => none) [(50, tabObj #[]), (38, tabObj #[]), (62, tabObj #[])] led) (hsc : m (Str.ofString "script") = some (Value.ref sc)) (hl : base.IsList sc (List.toArray vs)) (hI : IntsAre vs ns) (hn : ns.length ≤ 63)
    (kk : ∀ h' tk', base.StaysIn h' → Tabs h' → Q (.ret (.bool true)) { s with heap := h', toks := tk' }) :
    wpAny (model PySem.Challenge.pw_dw0016_02 w) (A.deeper (lwEnv L fa (.ref 64))) (execs lwBody (lwEnv L fa (.ref 64))) Q E { s with heap := h, toks := tk } := by
  have X := bs.K
  have T := bs.T
  show wpAny _ _ (execs (nth lwBody 0 :: nth lwBody 1 :: nth lwBody 2 :: lwBody.drop 3) (lwEnv L fa (.ref 64))) _ _ _
  refine lw_start bs B hh (by omega) (by omega) F N S hsc hl hI hn ?_
  rintro h1 tk1 led1 SC NU CE DU SU svs nv oD oS F1 N1 S1 hIs hIn hDd hSd sD sS ⟨o0, o1, o2, o3, o4⟩
  have hsl : svs.length ≤ 63 := by rw [(intsAre_at hIs).1]; simp; omega
  generalize hxs : [1, 5, 17] ++ ns.take 63 = xs at hIn
  have hxl : xs.length ≤ 66 := by rw [← hxs]; simp; omega
  have hx3 : 3 ≤ xs.length := by rw [← hxs]; simp
  have O : LwO L SC NU CE DU SU nv xs [(50, tabObj #[]), (38, tabObj #[]), (62, tabObj #[])] := ⟨o0, o1, o2, o3, o4, List.forall_mem_cons.mpr ⟨l38.2.1, List.forall_mem_cons.mpr ⟨l38.1, List.forall_mem_cons.mpr ⟨l38.2.2, fun _ h => nomatch h⟩⟩⟩, hIn, hxl, sD, sS⟩
  show wpAny _ _ (execs (nth lwBody 3 :: lwBody.drop 4) (lwEnv L fa (.ref 64))) _ _ _
  refine stop_cons ?_
  refine lw_for bs B hh (by omega) (by omega) hE O F1 N1 ⟨if_pos rfl, oS, oD, [], 0, [], [], [], S1, StrsAre.nil, hDd, hSd, .nil, .nil, fun _ h => nomatch h⟩ ?_
  rintro m2 led2 h2 tk2 ⟨ms, oS2, oD2, cvs, cc, kvS, kvD, own, S2⟩ F2 N2
  show wpAny _ _ (execs (nth lwBody 4 :: lwBody.drop 5) (lwEnv L fa (.ref 64))) _ _ _
  refine stop_cons ?_
  obtain ⟨co2, e2, d2⟩ := S2.C.cells 2 (by decide) (by decide)
  obtain ⟨co5, e5, d5⟩ := S2.C.cells 5 (by decide) (by decide)
  refine lw4 X T B hh (by omega) (by omega) F2 N2 e2 d2 (S2.C.sub _ (.tail _ (.tail _ (.head _)))) S2.cv (by omega) e5 d5 ?_
  intro h3 tk3 led3 led3' RO rvs co5' F3 N3 sub3 Tu3 hd3 lt3 hrs
  have lRO := S2.C.above lt3
  have S3 := ((S2.C.push (led' := (RO, W.listOf (List.toArray rvs) 0) :: led3) fun q hq => .tail _ (sub3 q hq)).add (q := (RO, W.listOf (List.toArray rvs) 0)) (.head _) lRO).store (j := 5) (by decide) (by decide) Tu3 hd3
  have hrl : (rowN xs.length).length = xs.length := rowN_len (by omega)
  have hrv := hrs.1
  clear e5 d5 e2 d2 Tu3 hd3
  show wpAny _ _ (execs (nth lwBody 5 :: lwBody.drop 6) (lwEnv L fa (.ref 64))) _ _ _
  refine stop_cons ?_
  obtain ⟨co5, e5, d5⟩ := S3.cells 5 (by decide) (by decide)
  refine lw5 X T B hh (by omega) (by omega) F3 N3 e5 d5 (S3.sub _ (.head _)) (by omega) ms (S3.sub _ (.tail _ (.tail _ (.tail _ (.tail _ (.tail _ (.head _))))))) (by omega) ?_
  intro h4 tk4 led4 AR c4 t4 F4 N4 sub4 hAR lt4
  have lAR := S3.above lt4
  have S4 := (S3.push sub4).add (q := (AR, W.listOf (List.toArray rvs) c4)) hAR lAR
  have hw0 : 0 ≤ (svs.length : Int).fmod 4 ∧ (svs.length : Int).fmod 4 < 4 := ⟨Int.fmod_nonneg_of_pos _ (by decide), Int.fmod_lt_of_pos _ (by decide)⟩
  generalize (svs.length : Int).fmod 4 = wv at *
  have hneA : ∀ q ∈ (RO, W.listOf (List.toArray rvs) 0) :: (SU, oS2) :: (DU, oD2) :: (CE, W.listOf (List.toArray cvs) cc) :: (NU, W.listOf (List.toArray nv) 0) :: (SC, W.listOf (List.toArray svs) 0) :: (own ++ [(50, tabObj #[]), (38, tabObj #[]), (62, tabObj #[])]), q.1 ≠ AR := fun q hq => Nat.ne_of_lt (lt4 q (S3.sub q hq))
  have hin : ∀ x ∈ rowN xs.length, x ∈ nms xs.length := fun x hx => let ⟨j, hj, e⟩ := rowN_mem hx; List.mem_map.mpr ⟨j, List.mem_range.mpr hj, e.symm⟩
  show wpAny _ _ (execs (nth lwBody 6 :: lwBody.drop 7) (lwEnv L fa (.ref 64))) _ _ _
  refine stop_cons ?_
  refine lw6 X T B hh (by omega) (by omega) F4 N4 S4 lAR hneA hrs (fun e => by rw [e] at hrl; simp at hrl; omega) (by omega) (fun x hx => nms_pos hxl (hin x hx)) (tw := t4) ((if_neg (by decide)).trans (if_pos rfl)) (if_pos rfl) ?_
  intro h5 tk5 m5 led5 vk ok ns5 arvs5 c5 F5 N5 S5 ha5 en5 hvk hlk mvk mm5 _
  have mw5 : m5 (Str.ofString "way") = some (.int wv t4) := (mm5 _ (by decide)).trans ((if_neg (by decide)).trans (if_pos rfl))
  have ma5 : m5 (Str.ofString "args") = some (.ref AR) := (mm5 _ (by decide)).trans (if_pos rfl)
  have hl5 : ns5.length + ok.toList.length = xs.length := by rw [← hrl, en5, List.length_append]
  have hok : ok.toList.length ≤ 1 := by cases ok <;> simp
  show wpAny _ _ (execs (nth lwBody 7 :: lwBody.drop 8) (lwEnv L fa (.ref 64))) _ _ _
  refine stop_cons ?_
  refine lw7 X T B hh (by omega) (by omega) F5 N5 S5 lAR hneA ha5 (fun e => by rw [e] at hl5; simp at hl5; omega) (by omega) (fun x hx => nms_pos hxl (hin x (by rw [en5]; exact List.mem_append_left _ hx))) mw5 ma5 ?_
  intro h6 tk6 m6 led6 va oa ns6 arvs6 c6 F6 N6 S6 ha6 en6 hva hla mva mm6 _
  have erow : rowN xs.length = favNames ns6 oa ok := by rw [en5, en6]; rfl
  rw [erow] at hrs hrl hin
  have hl6 : ns6.length ≤ 100 := by simp only [favNames, List.length_append] at hrl; omega
  have ma6 : m6 (Str.ofString "args") = some (.ref AR) := (mm6 _ (by decide)).trans ma5
  show wpAny _ _ (execs (nth lwBody 8 :: lwBody.drop 9) (lwEnv L fa (.ref 64))) _ _ _
  refine stop_cons ?_
  obtain ⟨co6, e6, d6⟩ := S6.cells 6 (by decide) (by decide)
  refine lw8 X T B hh (by omega) (by omega) F6 N6 ((mm6 _ (by decide)).trans mw5) hw0.1 hw0.2 ma6 (S6.sub _ (.head _)) (by rw [ha6.1]; exact hl6) e6 d6 ?_
  intro h7 tk7 led7 led7' ST sts co6' F7 N7 sub7 Tu7 hd7 lt7 hsts
  have lST := S6.above lt7
  have S7 := ((S6.push (led' := (ST, W.listOf (List.toArray sts) 0) :: led7) fun q hq => .tail _ (sub7 q hq)).add (q := (ST, W.listOf (List.toArray sts) 0)) (.head _) lST).store (j := 6) (by decide) (by decide) Tu7 hd7
  have hsi : IntsAre sts (starsOf ns6 oa ok) := by
    have h1 : (wv.fmod 2).toNat = oa.toList.length := by
      rw [hla]
      have : wv = 0 ∨ wv = 1 ∨ wv = 2 ∨ wv = 3 := by omega
      rcases this with rfl | rfl | rfl | rfl <;> rfl
    have h2 : (wv.fdiv 2).toNat = ok.toList.length := by
      rw [hlk]
      have : wv = 0 ∨ wv = 1 ∨ wv = 2 ∨ wv = 3 := by omega
      rcases this with rfl | rfl | rfl | rfl <;> rfl
    rw [h1, h2, ha6.1] at hsts
    exact hsts
  have rest : ∀ q ∈ [((50 : Addr), tabObj #[]), (38, tabObj #[]), (62, tabObj #[])], q ∈ led7' := fun q hq => S7.sub q (.tail _ (.tail _ (.tail _ (.tail _ (.tail _ (.tail _ (.tail _ (.tail _ (List.mem_append_right _ hq)))))))))
  have lDU : L + 7 < DU := Nat.lt_trans o0 (Nat.lt_trans o1 (Nat.lt_trans o2 o3))
  have lSU := Nat.lt_trans lDU o4
  show wpAny _ _ (execs (lwFor :: nth lwBody 10 :: []) (lwEnv L fa (.ref 64))) _ _ _
  refine stop_cons ?_
  refine lw_last (names := ns6) (oa := oa) (ok := ok) (xs := xs) (own := own) (c1 := 0) (c2 := 0) (c3 := c6) (va := va) (vk := vk) bs C50 C62 b50 b62 kf B hh hroom hu hE l38 (by rw [hrl]; exact hxl) hxl S2.hD S2.hS S2.kD S2.kS sS hrs ha6 hva hvk hsi hin hIn S2.cv F7 N7 S7 rfl rfl rfl rfl rfl rfl ma6 mva ((mm6 _ (by decide)).trans mvk) (cod_start (rest _ (.head _)) (rest _ (.tail _ (.head _))) (rest _ (.tail _ (.tail _ (.head _))))) (fun q hq => ?_) (.tail _ (.tail _ (.tail _ (.tail _ (.tail _ (.tail _ (.head _))))))) (.tail _ (.tail _ (.tail _ (.tail _ (.tail _ (.head _)))))) ?_
  · simp only [lwStuff, List.mem_cons] at hq
    rcases hq with h | h | h | h | h | h
    · rw [h]; exact ⟨.head _, lST⟩
    · rw [h]; exact ⟨.tail _ (.tail _ (.head _)), lRO⟩
    · rw [h]; exact ⟨.tail _ (.head _), lAR⟩
    · rw [h]; exact ⟨.tail _ (.tail _ (.tail _ (.tail _ (.head _)))), lDU⟩
    · rw [h]; exact ⟨.tail _ (.tail _ (.tail _ (.head _))), lSU⟩
    · exact ⟨.tail _ (.tail _ (.tail _ (.tail _ (.tail _ (.tail _ (.tail _ (.tail _ (List.mem_append_left _ h)))))))), Nat.lt_trans lSU (S2.above q h)⟩
  intro h8 tk8 m8 led8 F8 N8 hc8
  have tb := hc8.tabs F8 N8
  show wpAny _ _ (execs (nth lwBody 10 :: []) (lwEnv L fa (.ref 64))) _ _ _
  dsimp only [Mine.lwEnv]
  conv in (occs := *) (Mine.stScope Mine.lwStmt) => all_goals whnf
  conv in (nth lwBody 10) => whnf
  k_steps
  exact kk _ _ F8.keep tb
end
end Mine
end -- W17
section -- W18
open PySem PySem.W PyProof.Rows PySem.Calls PySem.Spec
set_option maxHeartbeats 8000000
namespace Mine
local macro_rules | `(tactic| walk_at "no key of any") => `(tactic| skip)
variable {w : World} {base : Heap} {p : Program} {loose : List Str} {mean : ExcName → Option Value} {mg mb : Str → Option Value}
variable {A : Around} {s : Shared} {h : Heap} {L fa : Addr} {cd : Value} {tk : Nat} {m : Str → Option Value} {E : Value → Shared → Prop} {Q : Flow → Shared → Prop} {sc : Addr} {vs : List Value} {ns : List Int}
theorem goodW_true {c : ClaimW} {cl : Str → Option Addr} {mean : ExcName → Option Value} {args : List WData} {s₁ s' : Shared} (st : s₁.heap.StaysIn s'.heap) (hg : s'.gens = #[]) (hn : ∀ cls, c.raises args cls = false) (hp : c.post args (.bool true) args = true) (hos : s'.os = s₁.os := by rfl) :
    GoodW c cl mean args s₁ (.ok (.ret (.bool true))) s' := ⟨.inl ⟨_, _, [], rfl, hn, .bool true, hp, unshared_nil⟩, st, hos, hg⟩
theorem lw_all' {prog : Program} {name : Str} {scope : Scope} {body : List Stmt} {c1 c2 c3 c4 c5 c6 c7 : Obj} (e1 : prog = PySem.Challenge.pw_dw0016_02) (e2 : name = Str.ofString "law") (e3 : scope = stScope lwStmt) (e4 : body = lwBody) (e5 : cd = .ref 64)
    (bs : Base1 w base p loose mean mg mb) (C50 : CodeHd base 54 50) (C62 : CodeHd base 64 62) (kf : KeyFree p loose) (B : Below A base [] base) (hh : A.handled = none) (hroom : A.depth + 560 < recursionLimit) (hu : A.units + 9000 < cLine) (hE : PassesOwn (model prog w) (A.deeper (envOfC name scope L fa cd)) (envOfC name scope L fa cd) E) (l38 : 38 < L) (l50 : 50 < L) (l62 : 62 < L)
    (F : Fr base L h m) (N : News base L h [(L + 7, c7), (L + 6, c6), (L + 5, c5), (L + 4, c4), (L + 3, c3), (L + 2, c2), (L + 1, c1), (50, tabObj #[]), (38, tabObj #[]), (62, tabObj #[])])
    (d1 : c1.data = .cell none) (d2 : c2.data = .cell none) (d3 : c3.data = .cell none) (d4 : c4.data = .cell none) (d5 : c5.data = .cell none) (d6 : c6.data = .cell none) (d7 : c7.data = .cell none)
    (hsc : m (Str.ofString "script") = some (Value.ref sc)) (hl : base.IsList sc (List.toArray vs)) (hI : IntsAre vs ns) (hn : ns.length ≤ 63)
    (kk : ∀ h' tk', base.StaysIn h' → Tabs h' → Q (.ret (.bool true)) { s with heap := h', toks := tk' }) :
    wpAny (model prog w) (A.deeper (envOfC name scope L fa cd)) (execs body (envOfC name scope L fa cd)) Q E { s with heap := h, toks := tk } := by
  subst e1 e2 e3 e4 e5
  have b50 := (N _ (.tail _ (.tail _ (.tail _ (.tail _ (.tail _ (.tail _ (.tail _ (.head _))))))))).2.2
  have b62 := (N _ (.tail _ (.tail _ (.tail _ (.tail _ (.tail _ (.tail _ (.tail _ (.tail _ (.tail _ (.head _))))))))))).2.2
  refine lw_all bs C50 C62 b50 b62 kf B hh hroom hu hE ⟨l38, l50, l62⟩ F N ⟨fun j a b => ?_, fun q hq => .tail _ (.tail _ (.tail _ (.tail _ (.tail _ (.tail _ (.tail _ hq)))))), ?_⟩ hsc hl hI hn kk
  · match j, a, b with
    | 1, _, _ => exact ⟨c1, .tail _ (.tail _ (.tail _ (.tail _ (.tail _ (.tail _ (.head _)))))), d1⟩
    | 2, _, _ => exact ⟨c2, .tail _ (.tail _ (.tail _ (.tail _ (.tail _ (.head _))))), d2⟩
    | 3, _, _ => exact ⟨c3, .tail _ (.tail _ (.tail _ (.tail _ (.head _)))), d3⟩
    | 4, _, _ => exact ⟨c4, .tail _ (.tail _ (.tail _ (.head _))), d4⟩
    | 5, _, _ => exact ⟨c5, .tail _ (.tail _ (.head _)), d5⟩
    | 6, _, _ => exact ⟨c6, .tail _ (.head _), d6⟩
    | 7, _, _ => exact ⟨c7, .head _, d7⟩
  · have q : ∀ {b : Addr}, b < L → ∀ j, 1 ≤ j → j ≤ 7 → b ≠ L + j := fun hb j _ _ => Nat.ne_of_lt (Nat.lt_of_lt_of_le hb (Nat.le_add_right L j))
    exact List.forall_mem_cons.mpr ⟨q l50, List.forall_mem_cons.mpr ⟨q l38, List.forall_mem_cons.mpr ⟨q l62, fun _ h => nomatch h⟩⟩⟩
end Mine
theorem PySem.Challenge.cw_dw0016_02_holds : PySem.Challenge.rw_dw0016_02.Holds := by
  refine hd2 ?_
  w_strict (k_go0; (all_goals try k_fold))
  with_reducible rename (CodeHd _ (((42 : Addr), (38 : Addr)).fst) _) => cH
  with_reducible rename (CodeHd _ (((54 : Addr), (50 : Addr)).fst) _) => cH50
  with_reducible rename (CodeHd _ (((64 : Addr), (62 : Addr)).fst) _) => cH62
  with_reducible rename (Frag.In _ (ghostOf _ _)) => hX
  with_reducible rename (Top topProg _ _ _ _ _) => hT
  with_reducible rename (Below _ _ _ _) => hB
  with_reducible rename (Fr _ _ _ _) => hF
  with_reducible rename (News _ _ _ _) => hN
  with_reducible rename (Heap.IsList (ghostOf _ _) _ _) => hL
  with_reducible rename (IntsAre _ _) => hI
  with_reducible rename (50 < _ ∧ _) => hlt
  with_reducible rename (_ = #[]) => hgen
  with_reducible rename (¬ _ < _) => h63
  have bs := Mine.Base1.mk hX hT cH (hN _ (.tail _ (.tail _ (.tail _ (.tail _ (.tail _ (.tail _ (.tail _ (.tail _ (.head _)))))))))).2.2
  with_reducible refine' Mine.lw_all' ?ze1 ?ze2 ?ze3 ?ze4 ?ze5 bs cH50 cH62 ?zkf hB ?zhh ?zhr ?zhu ?zhE hlt.2.1 hlt.1 hlt.2.2 hF ?zN ?zd1 ?zd2 ?zd3 ?zd4 ?zd5 ?zd6 ?zd7 ?zhsc hL hI ?zhn ?zk
  case zN => exact hN
  case ze1 => kernel_rfl
  case ze2 => kernel_rfl
  case ze3 => kernel_rfl
  case ze4 => kernel_rfl
  case ze5 => exact rfl
  case zkf => exact ⟨by decide +kernel, by decide +kernel, by decide +kernel, by decide +kernel⟩
  case zhh => exact rfl
  case zhr => decide
  case zhu => decide
  case zhE => passes_own
  case zd1 => assumption
  case zd2 => assumption
  case zd3 => assumption
  case zd4 => assumption
  case zd5 => assumption
  case zd6 => assumption
  case zd7 => assumption
  case zhsc => kernel_rfl
  case zhn => omega
  case zk =>
    intro h' tk' st tb
    exact ⟨Mine.goodW_true st hgen (raisesW_false (by wrow_none_raised)) (by wrow_post), ⟨_, tb.1.choose_spec⟩, ⟨_, tb.2.1.choose_spec⟩, ⟨_, tb.2.2.choose_spec⟩, trivial⟩
end -- W18
