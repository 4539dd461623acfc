import PyProof.Rows.All
import Wide.All
import OpenK.AllK
import Wide.FinOn
import Lean
import PySem.Challenge.RW_dw0016_01
set_option Elab.async false
set_option maxRecDepth 100000
set_option linter.unusedVariables false
set_option compiler.extract_closed false
section -- Top1
open PySem PySem.W PyProof.Rows
set_option maxHeartbeats 8000000
open_top hd1 for PySem.Challenge.rw_dw0016_01
end -- Top1
section -- S1
open PySem PySem.W PyProof.Rows PySem.Calls PySem.Spec
namespace Mine
/-! an exception on its way, with what its fields 0 and 2 hold (its arguments; no context) -/
noncomputable def Sees (t : Addr) (vs : Array Value) : Prop := vs[0]? = some (.ref t) ∧ vs[2]? = some .none
theorem Sees.put {t : Addr} {vs : Array Value} (h : Sees t vs) (b : Value) : Sees t (vs.setIfInBounds 1 b) := by
  refine ⟨?_, ?_⟩
  · rw [Array.getElem?_setIfInBounds_ne (by decide)]; exact h.1
  · rw [Array.getElem?_setIfInBounds_ne (by decide)]; exact h.2
noncomputable def Traced (h base : Heap) (e : Addr) (cls : Value) (t : Addr) (fl : Value) : Prop :=
  ∃ oe vs T oT ts, h.get? e = some oe ∧ oe.cls = cls ∧ Sees t vs ∧ oe.data = .fields vs ∧ vs[1]? = some (.ref T) ∧ base.get? T = none ∧ T ≠ e ∧ h.get? T = some oT ∧ oT.data = .fields ts ∧ ts[3]? = some fl
noncomputable def Flies (base : Heap) (l : List Env) (e : Addr) (cls : Value) (t : Addr) (fl : Value) (h : Heap) : Prop :=
  base.StaysIn h ∧ base.get? e = none ∧ h.FunFrames base l ∧ Traced h base e cls t fl
section
variable {M : Model} {A : Around} {E : Value → Shared → Prop} {s : Shared} {base : Heap} {env : Env} {outer l : List Env} {L e t : Addr} {cls : Value} {Q : Unit → Shared → Prop}
theorem not_rec {h : Heap} {b a : Addr} {o oa : Obj} {ws : Array Value} (hb : h.get? b = some o) (hn : ∀ vs, o.data ≠ .fields vs) (ha : h.get? a = some oa) (hd : oa.data = .fields ws) : b ≠ a := fun q => by
  rw [q, ha] at hb; cases hb; exact hn ws hd
theorem fly_entry {oe : Obj} {vs : Array Value} {head : Value} {had : Bool} (hfr : A.frames = some (env :: outer)) (hl : s.heap.FunFrames base (env :: outer)) (hf : env.frame = some L) (he : s.heap.get? e = some oe) (hkb : base.StaysIn s.heap) (hen : base.get? e = none) (hd : oe.data = .fields vs) (hsz : 1 < vs.size) (hc : oe.cls = cls) (hG : Sees t vs)
    (h : ∀ h', Flies base (env :: outer) e cls t (rawInt L) h' → s.heap.UpToSlots h' → Q () { s with heap := h' }) :
    wpAny M A (do let a ← frameOf env; let pl ← entryPlaceOf L had; let b ← EntryCells.newEntry head a .none (rawInt L) .none pl; setField (.ref e) 1 b) Q E s := by
  have hene : e ∉ (env :: outer).filterMap (·.frame) := fun hm => by
    obtain ⟨_, o, ho, hnf⟩ := hl.mem hm
    rw [he] at ho; cases ho; exact hnf vs hd
  refine wpAny_bind (wpAny_frameOf_fun hfr hl hf fun h₁ hs₁ => wpAny_bind (wpAny_entryPlaceOf fun pl hpl => ?_))
  unfold EntryCells.newEntry newFields
  refine wpAny_bind (wpAny_newObj_type ?_ (hpl.sizeOk5 _ _ _ _ _))
  have he₁ : h₁.get? e = some oe := (hs₁.2.1 e hene).trans he
  have kb₁ : base.StaysIn h₁ := fun b o hbo => (hs₁.2.1 b fun hm => by rw [(hl.mem hm).1] at hbo; cases hbo).trans (hkb b o hbo)
  generalize htb : ({ cls := .type "traceback", dict := none, data := .fields ([head, .ref L, .none, rawInt L, .none] ++ (if pl.isEmpty then List.replicate 6 Value.none else pl)).toArray } : Obj) = tb
  have hfd : tb.data = .fields ([head, .ref L, .none, rawInt L, .none] ++ (if pl.isEmpty then List.replicate 6 Value.none else pl)).toArray := by rw [← htb]
  have hnf : tb.isFreed = false := by rw [← htb]; rfl
  have he₂ := Heap.get?_push_of_some (h := h₁) tb he₁
  show wpAny M A (setField (.ref e) 1 (.ref h₁.objs.size)) Q E { s with heap := h₁.push tb }
  refine wpAny_setField he₂ hd hsz (h _ ?_ ?_)
  · have hTe : h₁.objs.size ≠ e := Nat.ne_of_gt (Heap.lt_size he₁)
    have hd₃ := Obj.data_mapFields hd (·.setIfInBounds 1 (Value.ref h₁.objs.size))
    have he₃ := Heap.get?_update_self (Obj.mapFields (·.setIfInBounds 1 (Value.ref h₁.objs.size))) he₂ (Obj.isFreed_of_fields hd₃)
    have hT₃ := (Heap.get?_update_other (h₁.push tb) (Obj.mapFields (·.setIfInBounds 1 (Value.ref h₁.objs.size))) (Ne.symm hTe)).trans (Heap.get?_push_size h₁ hnf)
    refine ⟨fun b o hbo => ?_, hen, hl.of_keeps fun b o hb hn => ?_, _, _, h₁.objs.size, tb, _, he₃, (Obj.cls_mapFields _ _).trans hc, hG.put _, hd₃, by simp [hsz], kb₁.fresh, hTe, hT₃, hfd, ?_⟩
    · exact (Heap.get?_update_other _ _ (fun q : e = b => by rw [← q, hen] at hbo; cases hbo)).trans (Heap.get?_push_of_some _ (kb₁ b o hbo))
    · obtain ⟨sl, hs⟩ := hs₁.2.2 b o hb
      exact ⟨_, (Heap.get?_update_other _ _ (Ne.symm (not_rec hb hn he hd))).trans (Heap.get?_push_of_some _ hs), rfl⟩
    · first | (simp; done) | (rcases hpl with rfl | ⟨_, _, _, _, _, _, _, rfl⟩ <;> simp)
  · intro b o hb hn
    obtain ⟨sl, hs⟩ := hs₁.2.2 b o hb
    exact ⟨sl, (Heap.get?_update_other _ _ (Ne.symm (not_rec hb hn he hd))).trans (Heap.get?_push_of_some _ hs)⟩
theorem fly_first {oe : Obj} {vs : Array Value} (hfr : A.frames = some (env :: outer)) (hl : s.heap.FunFrames base (env :: outer)) (hf : env.frame = some L) (he : s.heap.get? e = some oe) (hkb : base.StaysIn s.heap) (hen : base.get? e = none) (hd : oe.data = .fields vs) (h1 : vs[1]? = some .none) (hc : oe.cls = cls) (hG : Sees t vs)
    (h : ∀ h', Flies base (env :: outer) e cls t (rawInt L) h' → s.heap.UpToSlots h' → Q () { s with heap := h' }) : wpAny M A (noteFrame (.ref e) env) Q E s := by
  unfold noteFrame
  simp only [hf]
  refine wpAny_bind (wpAny_field he hd h1 ?_)
  rw [if_neg (by decide)]
  exact fly_entry hfr hl hf he hkb hen hd (Array.getElem?_eq_some_iff.mp h1).1 hc hG h
theorem fly_next (hfr : A.frames = some (env :: outer)) (hf : env.frame = some L) (x : Flies base (env :: outer) e cls t .none s.heap)
    (h : ∀ h', Flies base (env :: outer) e cls t (rawInt L) h' → s.heap.UpToSlots h' → Q () { s with heap := h' }) : wpAny M A (noteFrame (.ref e) env) Q E s := by
  obtain ⟨hkb, hen, hl, oe, vs, T, oT, ts, he, hc, hG, hd, h1, hnT, hTe, hT, hdT, h3⟩ := x
  unfold noteFrame
  simp only [hf]
  refine wpAny_bind (wpAny_field he hd h1 ?_)
  rw [if_pos (show (Value.ref T != Value.none) = true from by simp)]
  refine wpAny_bind (wpAny_field hT hdT h3 ?_)
  rw [if_neg (show ¬ ((Value.none == rawInt L) = true) from by simp [rawInt])]
  refine wpAny_bind (wpAny_setField hT hdT (Array.getElem?_eq_some_iff.mp h3).1 ?_)
  have other : ∀ b, b ≠ T → (s.heap.update T (Obj.mapFields (·.setIfInBounds 3 Value.none))).get? b = s.heap.get? b := fun b hb => Heap.get?_update_other _ _ (Ne.symm hb)
  refine fly_entry hfr (hl.of_keeps fun b o hb hn => ⟨o, (other b (not_rec hb hn hT hdT)).trans hb, rfl⟩) hf ((other e (Ne.symm hTe)).trans he)
    (fun b o hbo => (other b fun q => by rw [q, hnT] at hbo; cases hbo).trans (hkb b o hbo)) hen hd (Array.getElem?_eq_some_iff.mp h1).1 hc hG fun h' x1 x2 => h h' x1 fun b o hb hn => x2 b o ((other b (not_rec hb hn hT hdT)).trans hb) hn
theorem fly_lands {fl : Value} (x : Flies base l e cls t fl s.heap) (h : ∀ h', Flies base l e cls t .none h' → s.heap.UpToSlots h' → Q () { s with heap := h' }) : wpAny M A (setFlight (.ref e) none) Q E s := by
  obtain ⟨hkb, hen, hl, oe, vs, T, oT, ts, he, hc, hG, hd, h1, hnT, hTe, hT, hdT, h3⟩ := x
  have hsz3 : 3 < ts.size := (Array.getElem?_eq_some_iff.mp h3).1
  have other : ∀ b, b ≠ T → (s.heap.update T (Obj.mapFields (·.setIfInBounds 3 ((none : Option Addr).elim Value.none fun f => rawInt f)))).get? b = s.heap.get? b := fun b hb => Heap.get?_update_other _ _ (Ne.symm hb)
  unfold setFlight
  refine wpAny_bind (wpAny_field he hd h1 ?_)
  rw [if_pos (show (Value.ref T != Value.none) = true from by simp)]
  refine wpAny_setField hT hdT hsz3 (h _ ⟨fun b o hbo => (other b fun q => by rw [q, hnT] at hbo; cases hbo).trans (hkb b o hbo), hen, hl.of_keeps fun b o hb hn => ⟨o, (other b (not_rec hb hn hT hdT)).trans hb, rfl⟩,
    oe, vs, T, _, _, (other e (Ne.symm hTe)).trans he, hc, hG, hd, h1, hnT, hTe, Heap.get?_update_self _ hT (Obj.isFreed_of_fields (Obj.data_mapFields hdT _)), Obj.data_mapFields hdT _, by simp [hsz3]⟩ fun b o hb hn => ⟨o.slots, (other b (not_rec hb hn hT hdT)).trans hb⟩)
theorem fly_leaves (hfr : A.frames = some (env :: outer)) (hf : env.frame = some L) (x : Flies base (env :: outer) e cls t .none s.heap)
    (h : ∀ h', Flies base outer e cls t .none h' → s.heap.UpToSlots h' → Q () { s with heap := h' }) : wpAny M A (leaving env (.ref e)) Q E s := by
  unfold leaving
  refine wpAny_bind (fly_next hfr hf x fun h₁ x₁ u₁ => fly_lands x₁ fun h₂ x₂ u₂ => h h₂ ?_ (u₁.trans u₂))
  obtain ⟨k1, k2, ⟨_, _, k3⟩, k4⟩ := x₂
  exact ⟨k1, k2, k3, k4⟩
theorem fly_made {h : Heap} {args : List Value} (hfr : A.frames = some (env :: outer)) (hf : env.frame = some L) (hkb : base.StaysIn h) (hl : h.FunFrames base (env :: outer)) (hx : Heap.MadeExcOf h s.heap e cls args)
    (hQ : ∀ h' t, Flies base outer e cls t .none h' → h'.TupAt t args → base.get? t = none → s.heap.UpToSlots h' → Q () { s with heap := h' }) : wpAny M A (leaving env (.ref e)) Q E s := by
  obtain ⟨t, he, htn, ht⟩ := hx.there
  have fresh : ∀ b, h.get? b = none → base.get? b = none := fun b hb => by
    cases hq : base.get? b with
    | none => rfl
    | some o' => have := hkb b o' hq; rw [hb] at this; cases this
  unfold leaving
  refine wpAny_bind (fly_first (t := t) hfr (hl.of_keeps fun b o hb _ => ⟨o, hx.keeps b o hb, rfl⟩) hf he (fun b o hb => hx.keeps b o (hkb b o hb)) (fresh e hx.new) rfl rfl rfl ⟨rfl, rfl⟩ fun h₁ x₁ u₁ => fly_lands x₁ fun h₂ x₂ u₂ => ?_)
  obtain ⟨k1, k2, ⟨_, _, k3⟩, k4⟩ := x₂
  exact hQ h₂ t ⟨k1, k2, k3, k4⟩ (Heap.TupAt.of_slots (Heap.TupAt.of_slots ⟨_, _, ht, rfl, rfl⟩ u₁) u₂) (fresh t htn) (u₁.trans u₂)
theorem Flies.there {fl : Value} {h : Heap} (x : Flies base l e cls t fl h) : ∃ oe vs, h.get? e = some oe ∧ oe.cls = cls ∧ oe.data = .fields vs ∧ Sees t vs :=
  let ⟨_, _, _, oe, vs, _, _, _, he, hc, hG, hd, _⟩ := x; ⟨oe, vs, he, hc, hd, hG⟩
theorem Flies.lower {base' : Heap} {fl : Value} {h : Heap} (k : base'.StaysIn base) (x : Flies base l e cls t fl h) : Flies base' l e cls t fl h := by
  obtain ⟨f1, f2, f3, oe, vs, T, oT, ts, a1, a2, a3, a4, a5, a6, a7⟩ := x
  exact ⟨fun b o q => f1 b o (k b o q), fresh_of_stays k f2, funFrames_base k f3, oe, vs, T, oT, ts, a1, a2, a3, a4, a5, fresh_of_stays k a6, a7⟩
end
end Mine
end -- S1
section -- B1
open PySem PySem.W PyProof.Rows PySem.Calls PySem.Spec
namespace Mine
/-- all but S is kept -/
noncomputable def KeepBut (S : List Addr) (h h' : Heap) : Prop := ∀ b o, b ∉ S → h.get? b = some o → h'.get? b = some o
theorem KeepBut.refl (S : List Addr) (h : Heap) : KeepBut S h h := fun _ _ _ e => e
theorem KeepBut.trans {S : List Addr} {h h' h'' : Heap} (a : KeepBut S h h') (b : KeepBut S h' h'') : KeepBut S h h'' := fun x o n e => b x o n (a x o n e)
theorem KeepBut.of_stays {S : List Addr} {h h' : Heap} (a : h.StaysIn h') : KeepBut S h h' := fun x o _ e => a x o e
theorem KeepBut.of_hide {S : List Addr} {h h' : Heap} (a : (hideAll h S).StaysIn h') : KeepBut S h h' := fun x o n e => a x o (hideAll_get S e n)
theorem KeepBut.hide {S : List Addr} {h h' : Heap} (a : KeepBut S h h') : (hideAll h S).StaysIn h' := fun x o e =>
  a x o (fun m => by rw [hideAll_none S m] at e; cases e) (of_hideAll S e)
theorem hide_some {S : List Addr} {h : Heap} {b : Addr} {o : Obj} (e : (hideAll h S).get? b = some o) : h.get? b = some o ∧ b ∉ S :=
  ⟨of_hideAll S e, fun m => by rw [hideAll_none S m] at e; cases e⟩
noncomputable abbrev frs (l : List Env) : List Addr := l.filterMap (·.frame)
/-- an exception of the class KeyError with the one argument x flies over the frames fr; of the heap h all but S and the frames stands in B, and B in h' -/
noncomputable def Up (S : List Addr) (Er : Heap → Prop) (fr : List Env) (e : Addr) (x : Str) (h h' : Heap) : Prop :=
  ∃ B t xt, (hideAll h (S ++ frs fr)).StaysIn B ∧ Er B ∧ Flies B fr e (.type "KeyError") t .none h' ∧ B.get? t = none ∧ h'.TupAt t [.str x xt] ∧ (hideAll h S).UpToSlots h'
noncomputable def Calls (prog : Program) (w : World) (base : Heap) (S : List Addr) (dn un : Nat) (Pre : Heap → Prop) (f : Value) (pos : List Value) (kw : List (Str × Value)) (Ok : Value → Heap → Prop) (Er : Str → Heap → Prop) : Prop :=
  ∀ (A : Around) (fr : List Env) (s : Shared) (Q E : Value → Shared → Prop), A.frames = some fr → base.StaysIn s.heap → s.heap.FunFrames base fr → (∀ b ∈ S, b ∉ frs fr) → Pre s.heap → A.handled = none →
    A.depth + dn < recursionLimit → A.units + un < cLine →
    (∀ v h' tk', KeepBut S s.heap h' → Ok v h' → Q v { s with heap := h', toks := tk' }) →
    (∀ x e h' tk', Up S (Er x) fr e x s.heap h' → E (.ref e) { s with heap := h', toks := tk' }) →
    wpAny (model prog w) A (call f pos kw) Q E s
/-- what a body hands back -/
noncomputable def Out (s : Shared) (g : Heap) (Ok : Value → Heap → Prop) (v : Value) (s' : Shared) : Prop :=
  ∃ h' tk', s' = { s with heap := h', toks := tk' } ∧ g.StaysIn h' ∧ Ok v h'
theorem Out.mk {s : Shared} {g : Heap} {Ok : Value → Heap → Prop} {v : Value} {h' : Heap} {tk' : Nat} (k : g.StaysIn h') (o : Ok v h') : Out s g Ok v { s with heap := h', toks := tk' } := ⟨h', tk', rfl, k, o⟩
/-- what a body raises -/
noncomputable def OutE (s : Shared) (S : List Addr) (Er : Str → Heap → Prop) (fr : List Env) (h : Heap) (e : Value) (s' : Shared) : Prop :=
  ∃ x a h' tk', e = .ref a ∧ s' = { s with heap := h', toks := tk' } ∧ Up S (Er x) fr a x h h'
theorem funFrames_hideS {base h : Heap} {S : List Addr} {l : List Env} (H : h.FunFrames base l) (n : ∀ b ∈ S, b ∉ frs l) : (hideAll h S).FunFrames base l :=
  funFrames_hideAll H fun env he a ha hf => n a ha (List.mem_filterMap.mpr ⟨env, he, hf⟩)
theorem stays_hide {base h : Heap} {S : List Addr} (st : base.StaysIn h) (n : ∀ b ∈ S, base.get? b = none) : base.StaysIn (hideAll h S) := fun b o e =>
  hideAll_get S (st b o e) fun m => by rw [n b m] at e; cases e
theorem up_leave {S : List Addr} {Er : Heap → Prop} {fr : List Env} {e : Addr} {x : Str} {h h₂ h' : Heap} {M : Model} {A : Around} {env : Env} {L : Addr} {s' : Shared} {Q : Unit → Shared → Prop} {E : Value → Shared → Prop}
    (hA : A.frames = some fr) (hf : env.frame = some L) (hL : h.objs.size ≤ L) (k : KeepBut S h h₂) (e1 : s'.heap = h') (U : Up S Er (env :: fr) e x h₂ h')
    (hQ : ∀ h'', Up S Er fr e x h h'' → Q () { s' with heap := h'' }) : wpAny M (A.deeper env) (leaving env (.ref e)) Q E s' := by
  subst e1
  obtain ⟨B, t, xt, b1, b2, b3, b4, b5, b6⟩ := U
  refine fly_leaves (Around.frames_deeper hA) hf b3 fun h'' f1 f2 => hQ h'' ⟨B, t, xt, fun b o q => b1 b o ?_, b2, f1, b4, b5.of_slots f2, ((Heap.UpToSlots.of_keeps fun b o q => hideAll_get _ (k b o (hide_some q).2 (hide_some q).1) (hide_some q).2).trans b6).trans f2⟩
  obtain ⟨q1, q2⟩ := hide_some q
  refine hideAll_get _ (k b o (fun m => q2 (List.mem_append_left _ m)) q1) fun m => ?_
  rcases List.mem_append.mp m with m | m
  · exact q2 (List.mem_append_left _ m)
  · rw [frs, List.filterMap_cons, hf] at m
    rcases List.mem_cons.mp m with rfl | m
    · exact absurd (Heap.lt_size q1) (Nat.not_lt.mpr hL)
    · exact q2 (List.mem_append_right _ m)
theorem Up.more {S S' : List Addr} {Er Er' : Heap → Prop} {fr : List Env} {e : Addr} {x : Str} {h h' : Heap} (U : Up S Er fr e x h h') (hS : ∀ b ∈ S, b ∈ S') (hE : ∀ B, Er B → Er' B) : Up S' Er' fr e x h h' := by
  obtain ⟨B, t, xt, b1, b2, b3, b4, b5, b6⟩ := U
  refine ⟨B, t, xt, fun b o q => b1 b o ?_, hE B b2, b3, b4, b5, (Heap.UpToSlots.of_keeps fun b o q => hideAll_get _ (hide_some q).1 fun m => (hide_some q).2 (hS b m)).trans b6⟩
  obtain ⟨q1, q2⟩ := hide_some q
  exact hideAll_get _ q1 fun m => q2 ((List.mem_append.mp m).elim (fun z => List.mem_append_left _ (hS b z)) fun z => List.mem_append_right _ z)
/-- a call by its contract, in a frame -/
theorem use_calls {prog : Program} {w : World} {base h₀ : Heap} {S : List Addr} {dn un : Nat} {Pre : Heap → Prop} {f : Value} {pos : List Value} {kw : List (Str × Value)} {Ok : Value → Heap → Prop} {Er : Str → Heap → Prop} {A : Around} {fr : List Env} {s : Shared} {Q E : Value → Shared → Prop} {env : Env} {L : Addr} {m : Str → Option Value}
    (H : Calls prog w base S dn un Pre f pos kw Ok Er) (B : Below A base fr h₀) (F : Fr h₀ L s.heap m) (hf : env.frame = some L) (hke : env.scope.kind = .function) (hS : ∀ b ∈ S, b ∉ frs (env :: fr)) (hpre : Pre s.heap) (hh : A.handled = none)
    (hd : A.depth + 1 + dn < recursionLimit) (hu : A.units + 3 + un < cLine)
    (ok : ∀ v h' tk', KeepBut S s.heap h' → Ok v h' → Q v { s with heap := h', toks := tk' })
    (er : ∀ x e h' tk', Up S (Er x) (env :: fr) e x s.heap h' → E (.ref e) { s with heap := h', toks := tk' }) :
    wpAny (model prog w) (A.deeper env) (call f pos kw) Q E s :=
  have B' := pushX B F hf hke
  H _ _ _ _ _ B'.stack B'.stays B'.frames hS hpre hh hd hu ok er
/-- a KeyError made in this very frame leaves it -/
theorem made_leave {S : List Addr} {Er : Heap → Prop} {base : Heap} {fr : List Env} {e : Addr} {x : Str} {xt : Tok} {h h₂ : Heap} {M : Model} {A : Around} {env : Env} {L : Addr} {s' : Shared} {Q : Unit → Shared → Prop} {E : Value → Shared → Prop}
    (hA : A.frames = some fr) (hf : env.frame = some L) (hL : h.objs.size ≤ L) (k : KeepBut S h h₂) (ff : h₂.FunFrames base (env :: fr)) (hx : Heap.MadeExcOf h₂ s'.heap e (.type "KeyError") [.str x xt])
    (hE : Er (hideAll h₂ (frs (env :: fr)))) (hQ : ∀ h'', Up S Er fr e x h h'' → Q () { s' with heap := h'' }) : wpAny M (A.deeper env) (leaving env (.ref e)) Q E s' := by
  refine fly_made (base := hideAll h₂ (frs (env :: fr))) (Around.frames_deeper hA) hf (fun b o q => of_hideAll _ q) (funFrames_hide ff fun env' he a ha => List.mem_filterMap.mpr ⟨env', he, ha⟩) hx
    fun h' t x1 x2 x3 x4 => hQ h' ⟨_, t, xt, fun b o q => ?_, hE, x1, x3, x2, (Heap.UpToSlots.of_keeps fun b o q => hx.keeps b o (k b o (hide_some q).2 (hide_some q).1)).trans x4⟩
  obtain ⟨q1, q2⟩ := hide_some q
  refine hideAll_get _ (k b o (fun m => q2 (List.mem_append_left _ m)) q1) fun m => ?_
  rw [frs, List.filterMap_cons, hf] at m
  rcases List.mem_cons.mp m with rfl | m
  · exact absurd (Heap.lt_size q1) (Nat.not_lt.mpr hL)
  · exact q2 (List.mem_append_right _ m)
section
variable {prog : Program} {w : World} {base : Heap} {S : List Addr}
/-- a def of the text: what its body does is what the call does -/
theorem calls_def {dn un : Nat} {Pre : Heap → Prop} {f : Addr} {pos : List Value} {kw : List (Str × Value)} {Ok : Value → Heap → Prop} {Er : Str → Heap → Prop}
    {name qual : Str} {params : Arguments} {body : List Stmt} {scope : Scope} {cl : List (Str × Addr)} {dV kV doc pm cdv ct : Value} {an : Option Addr} {fo : Obj} {binds : List (Str × Value)}
    (hS : ∀ b ∈ S, base.get? b = none) (hlim : base.NoLimit) (ho : ∀ h, Pre h → base.StaysIn h → h.get? f = some fo) (hd : fo.data = .func (fnX name qual params body scope cl dV kV doc pm an cdv ct)) (hcd : ∀ h, Pre h → base.StaysIn h → h.CodeRec cdv qual) (hdn : 0 < dn)
    (hbind : ∀ s : Shared, Pre s.heap → base.StaysIn s.heap → BindsTo s (fnX name qual params body scope cl dV kV doc pm an cdv ct) ⟨pos, kw⟩ binds) (hloc : ∀ y ∈ binds, scope.names.lookup y.1 = some .local)
    (h : ∀ (A : Around) (fr : List Env) (s : Shared) (L : Addr) (h₁ : Heap), A.frames = some fr → Pre s.heap → A.handled = none → A.depth + dn < recursionLimit → A.units + un < cLine → s.heap.FunFrames base fr → (∀ b ∈ S, b ∉ frs fr) →
      base.StaysIn (hideAll s.heap S) → Below A base fr (hideAll s.heap S) → Fr (hideAll s.heap S) L h₁ (fun y => binds.reverse.lookup y) → s.heap.StaysIn h₁ → L = s.heap.objs.size →
      wpAny (model prog w) (A.deeper (envX qual scope L f cdv cl)) (execs body (envX qual scope L f cdv cl))
        (fun fl s' => Out s (hideAll s.heap S) Ok (match fl with | .ret v => v | _ => .none) s')
        (fun e s' => wpAny (model prog w) (A.deeper (envX qual scope L f cdv cl)) (leaving (envX qual scope L f cdv cl) e) (fun _ s'' => OutE s S Er fr s.heap e s'') (fun e' s'' => OutE s S Er fr s.heap e' s'') s')
        { s with heap := h₁, toks := s.toks + binds.length })
    (hcell : ∀ x ∈ scope.names, x.2 ≠ .cell) (hco : scope.isCoroutine = false) (hgen : scope.isGenerator = false) (hk : scope.kind = .function) :
    Calls prog w base S dn un Pre (.ref f) pos kw Ok Er := by
  intro A fr s Q E hA st ff hSf hpre hh hroom hu hQ hE
  refine wpAny_call (codeAny_call_def (fd := fnX name qual params body scope cl dV kV doc pm an cdv ct) (body := body) (binds := binds) (by omega) (ho _ hpre st) hd (hlim.keeps st) (hcd _ hpre st) rfl (hbind s hpre st) hcell hloc (fun h₁ hns hk₁ => ?_) hco hgen hk)
  have sth := stays_hide st hS
  refine wpAny_mono (h A fr s s.heap.objs.size h₁ hA hpre hh hroom hu ff hSf sth ⟨hA, sth, funFrames_hideS ff hSf⟩ ⟨hns, fun b o e => hk₁ b o (of_hideAll _ e), Nat.le_of_eq (hideAll_size _ _)⟩ hk₁ rfl) (fun fl s' hl => ?_) fun e s' hl => ?_
  · obtain ⟨h', tk', rfl, k, o⟩ := hl
    exact hQ _ _ _ (KeepBut.of_hide k) o
  · refine wpAny_mono hl (fun _ s'' o => ?_) fun e' s'' o => ?_
    · obtain ⟨x, a, h', tk', rfl, rfl, U⟩ := o
      exact hE _ _ _ _ U
    · obtain ⟨x, a, h', tk', rfl, rfl, U⟩ := o
      exact hE _ _ _ _ U
/-- a def that is an expression (a lambda) -/
theorem calls_expr {dn un : Nat} {Pre : Heap → Prop} {f : Addr} {pos : List Value} {kw : List (Str × Value)} {Ok : Value → Heap → Prop} {Er : Str → Heap → Prop}
    {name qual : Str} {params : Arguments} {body : Expr} {scope : Scope} {cl : List (Str × Addr)} {dV kV doc pm cdv ct : Value} {an : Option Addr} {fo : Obj} {binds : List (Str × Value)}
    (hS : ∀ b ∈ S, base.get? b = none) (hlim : base.NoLimit) (ho : ∀ h, Pre h → base.StaysIn h → h.get? f = some fo)
    (hd : fo.data = .func { name, qualname := qual, params, body := .expr body, scope, globals := mainGlobals, closure := cl, defaults := dV, kwdefaults := kV, doc, pyModule := pm, annotations := an, code := cdv, closureTuple := ct, builtins := builtinsNs }) (hcd : ∀ h, Pre h → base.StaysIn h → h.CodeRec cdv qual) (hdn : 0 < dn)
    (hbind : bindArgs { name, qualname := qual, params, body := .expr body, scope, globals := mainGlobals, closure := cl, defaults := dV, kwdefaults := kV, doc, pyModule := pm, annotations := an, code := cdv, closureTuple := ct, builtins := builtinsNs } ⟨pos, kw⟩ = pure binds) (hloc : ∀ y ∈ binds, scope.names.lookup y.1 = some .local)
    (h : ∀ (A : Around) (fr : List Env) (s : Shared) (L : Addr) (h₁ : Heap), A.frames = some fr → Pre s.heap → A.handled = none → A.depth + dn < recursionLimit → A.units + un < cLine → s.heap.FunFrames base fr → (∀ b ∈ S, b ∉ frs fr) →
      base.StaysIn (hideAll s.heap S) → Below A base fr (hideAll s.heap S) → Fr (hideAll s.heap S) L h₁ (fun y => binds.reverse.lookup y) → s.heap.StaysIn h₁ → L = s.heap.objs.size →
      wpAny (model prog w) (A.deeper (envX qual scope L f cdv cl)) (eval body (envX qual scope L f cdv cl))
        (fun v s' => Out s (hideAll s.heap S) Ok v s')
        (fun e s' => wpAny (model prog w) (A.deeper (envX qual scope L f cdv cl)) (leaving (envX qual scope L f cdv cl) e) (fun _ s'' => OutE s S Er fr s.heap e s'') (fun e' s'' => OutE s S Er fr s.heap e' s'') s')
        { s with heap := h₁, toks := s.toks + binds.length })
    (hcell : ∀ x ∈ scope.names, x.2 ≠ .cell) (hco : scope.isCoroutine = false) (hgen : scope.isGenerator = false) (hk : scope.kind = .function) :
    Calls prog w base S dn un Pre (.ref f) pos kw Ok Er := by
  intro A fr s Q E hA st ff hSf hpre hh hroom hu hQ hE
  refine wpAny_call (kla_callFunE (by omega) (ho _ hpre st) hd hco hgen rfl (hcd _ hpre st) ?_)
  rw [hbind]
  refine wpAny_pure (wpAny_newFunctionEnv hcell hloc (fun h₁ hns hsb => ⟨(hlim.keeps st).fresh _ hsb, ?_⟩) hk)
  show codeAny _ _ (.expr body (envX qual scope s.heap.objs.size f cdv cl)) _ _
  have hk₁ : ∀ b o, s.heap.get? b = some o → h₁.get? b = some o := fun b o e => hsb.extBut b o (Nat.ne_of_lt (Heap.lt_size e)) (Heap.get?_push_of_some _ e)
  have sth := stays_hide st hS
  refine kla_codeExpr (wpAny_mono (h A fr s s.heap.objs.size h₁ hA hpre hh hroom hu ff hSf sth ⟨hA, sth, funFrames_hideS ff hSf⟩ ⟨hns, fun b o e => hk₁ b o (of_hideAll _ e), Nat.le_of_eq (hideAll_size _ _)⟩ hk₁ rfl) (fun v s' hl => ?_) fun e s' hl => ?_)
  · obtain ⟨h', tk', rfl, k, o⟩ := hl
    exact hQ _ _ _ (KeepBut.of_hide k) o
  · refine wpAny_mono hl (fun _ s'' o => ?_) fun e' s'' o => ?_
    · obtain ⟨x, a, h', tk', rfl, rfl, U⟩ := o
      exact hE _ _ _ _ U
    · obtain ⟨x, a, h', tk', rfl, rfl, U⟩ := o
      exact hE _ _ _ _ U
theorem calls_K {K : Frag} {dn un : Nat} {Pre : Heap → Prop} {f : Addr} {pos : List Value} {kw : List (Str × Value)} {Ok : Value → Heap → Prop} {Er : Str → Heap → Prop}
    {name qual : Str} {params : Arguments} {body : List Stmt} {scope : Scope} {dV kV doc pm cdv ct oc : Value} {an od : Option Addr} {osl : Array (Option Value)} {binds : List (Str × Value)}
    (hS : ∀ b ∈ S, base.get? b = none) (hlim : base.NoLimit) (X : K.In base) (hdn : 0 < dn)
    (ho : K.lookup f = some ⟨oc, od, .func (fnOf name qual params body scope dV kV doc pm an cdv ct), osl⟩) (hcd : codeIn K cdv qual = true)
    (hbind : ∀ s : Shared, K.In s.heap → BindsTo s (fnOf name qual params body scope dV kV doc pm an cdv ct) ⟨pos, kw⟩ binds) (hloc : ∀ y ∈ binds, scope.names.lookup y.1 = some .local)
    (h : ∀ (A : Around) (fr : List Env) (s : Shared) (L : Addr) (h₁ : Heap), A.frames = some fr → Pre s.heap → A.handled = none → A.depth + dn < recursionLimit → A.units + un < cLine → s.heap.FunFrames base fr → (∀ b ∈ S, b ∉ frs fr) →
      base.StaysIn (hideAll s.heap S) → Below A base fr (hideAll s.heap S) → Fr (hideAll s.heap S) L h₁ (fun y => binds.reverse.lookup y) → s.heap.StaysIn h₁ → L = s.heap.objs.size →
      wpAny (model prog w) (A.deeper (envOf qual scope L f cdv)) (execs body (envOf qual scope L f cdv))
        (fun fl s' => Out s (hideAll s.heap S) Ok (match fl with | .ret v => v | _ => .none) s')
        (fun e s' => wpAny (model prog w) (A.deeper (envOf qual scope L f cdv)) (leaving (envOf qual scope L f cdv) e) (fun _ s'' => OutE s S Er fr s.heap e s'') (fun e' s'' => OutE s S Er fr s.heap e' s'') s')
        { s with heap := h₁, toks := s.toks + binds.length })
    (hcell : ∀ x ∈ scope.names, x.2 ≠ .cell) (hco : scope.isCoroutine = false) (hgen : scope.isGenerator = false) (hk : scope.kind = .function) :
    Calls prog w base S dn un Pre (.ref f) pos kw Ok Er :=
  calls_def (cl := []) hS hlim (fun _ _ st => st _ _ (X _ _ ho)) rfl (fun _ _ st => (codeRec_of X hcd).keeps st) hdn (fun s _ st => hbind s (X.keeps st)) hloc h hcell hco hgen hk
theorem calls_KE {K : Frag} {dn un : Nat} {Pre : Heap → Prop} {f : Addr} {pos : List Value} {kw : List (Str × Value)} {Ok : Value → Heap → Prop} {Er : Str → Heap → Prop}
    {name qual : Str} {params : Arguments} {body : Expr} {scope : Scope} {dV kV doc pm cdv ct oc : Value} {an od : Option Addr} {osl : Array (Option Value)} {binds : List (Str × Value)}
    (hS : ∀ b ∈ S, base.get? b = none) (hlim : base.NoLimit) (X : K.In base) (hdn : 0 < dn)
    (ho : K.lookup f = some ⟨oc, od, .func (ktl_fn name qual params body scope dV kV doc pm an cdv ct), osl⟩) (hcd : codeIn K cdv qual = true)
    (hbind : bindArgs (ktl_fn name qual params body scope dV kV doc pm an cdv ct) ⟨pos, kw⟩ = pure binds) (hloc : ∀ y ∈ binds, scope.names.lookup y.1 = some .local)
    (h : ∀ (A : Around) (fr : List Env) (s : Shared) (L : Addr) (h₁ : Heap), A.frames = some fr → Pre s.heap → A.handled = none → A.depth + dn < recursionLimit → A.units + un < cLine → s.heap.FunFrames base fr → (∀ b ∈ S, b ∉ frs fr) →
      base.StaysIn (hideAll s.heap S) → Below A base fr (hideAll s.heap S) → Fr (hideAll s.heap S) L h₁ (fun y => binds.reverse.lookup y) → s.heap.StaysIn h₁ → L = s.heap.objs.size →
      wpAny (model prog w) (A.deeper (envOf qual scope L f cdv)) (eval body (envOf qual scope L f cdv))
        (fun v s' => Out s (hideAll s.heap S) Ok v s')
        (fun e s' => wpAny (model prog w) (A.deeper (envOf qual scope L f cdv)) (leaving (envOf qual scope L f cdv) e) (fun _ s'' => OutE s S Er fr s.heap e s'') (fun e' s'' => OutE s S Er fr s.heap e' s'') s')
        { s with heap := h₁, toks := s.toks + binds.length })
    (hcell : ∀ x ∈ scope.names, x.2 ≠ .cell) (hco : scope.isCoroutine = false) (hgen : scope.isGenerator = false) (hk : scope.kind = .function) :
    Calls prog w base S dn un Pre (.ref f) pos kw Ok Er :=
  calls_expr (cl := []) hS hlim (fun _ _ st => st _ _ (X _ _ ho)) rfl (fun _ _ st => (codeRec_of X hcd).keeps st) hdn hbind hloc h hcell hco hgen hk
end
/-- the dict has no such key: KeyError with the key -/
theorem getItem_missing {prog : Program} {w : World} {A : Around} {E : Value → Shared → Prop} {s : Shared} {d : Addr} {x : Str} {t : Tok} {f : Str → Option Value} {Q : Value → Shared → Prop} (hd : (d == sysModules) = false) (hh : A.handled = none) (hm : s.heap.MapOf (strKind prog w) d f) (hv : f x = none)
    (h : ∀ h' e, Heap.MadeExcOf s.heap h' e (.type "KeyError") [.str x t] → E (.ref e) { s with heap := h', toks := s.toks + 1 }) : wpAny (model prog w) A (getItem (.ref d) (.str x t)) Q E s := by
  unfold getItem
  try with_reducible refine wpAny_holding ?_
  refine wpAny_bind (wpAny_sequenceKey hm.typeIs (by decide) ?_)
  refine wpAny_bind (wpAny_callSpecial?_slot (name := Str.ofString "__getitem__") hm.typeIs slot_dict_getitem
    (wpAny_call_entry slot_dict_getitem hm.typeIs entry_dict_getitem ?_ (args_dict_getitem _ _)))
  show wpAny _ _ (dictGet d (.str x t) >>= _) _ _ s
  refine wpAny_bind (wpAny_dictGet_of (strKind_is prog w x t) hm ?_)
  rw [hv]
  show wpAny _ _ (Builtin.Dict.missed d (.str x t) >>= _) _ _ _
  refine wpAny_bind (wpAny_missed_other hd ?_)
  refine wpAny_bind (wpAny_typeOf (s := { s with toks := s.toks + 1 }) hm.typeIs ?_)
  show wpAny _ _ (if (Value.type "dict" != Value.type "dict") = true then _ else _) _ _ _
  rw [if_neg (by decide)]
  refine wpAny_bind (wpAny_rule (wpAny_bind ?_))
  unfold newExc newTuple
  refine wpAny_bind (wpAny_newObj_type ?_ (show ([Value.str x t]).toArray.size ≤ sizeLine from (by decide : 1 ≤ sizeLine)))
  refine wpAny_bind (m := firstArgMember _ _) (wpAny_of_eq (a := Value.none) (by simp only [firstArgMember, plainExc_KeyError.first]; rfl) ?_)
  rw [plainExc_KeyError.own]
  refine wpAny_newObj_type ?_ (by size_fits)
  unfold raiseNew
  refine wpAny_bind (wpAny_handled ?_)
  rw [show (A.in1).handled = none from hh]
  refine wpAny_bind (wpAny_pure (wpAny_throw ?_))
  refine h _ _ ⟨fun b o hb => Heap.get?_push_of_some _ (Heap.get?_push_of_some _ hb), Heap.get?_none_of_le (by simp), _, Heap.get?_push_size _ rfl, Heap.get?_none_of_le (by simp), Heap.get?_push_of_some _ (Heap.get?_push_size _ rfl)⟩
end Mine
end -- B1
section -- B2
open PySem PySem.W PyProof.Rows PySem.Calls PySem.Spec
namespace Mine
theorem stop_here {P : Prop} (h : P) : P := h
noncomputable def Stop (P : Prop) : Prop := P
theorem Stop.mk {P : Prop} (h : Stop P) : P := h
theorem stop_cons {M : Model} {A : Around} {E : Value → Shared → Prop} {s : Shared} {env : Env} {st rest} {Q : Flow → Shared → Prop}
    (h : wpAny M A (exec st env) (fun f s' => match f with | .next => Stop (wpAny M A (execs rest env) Q E s') | f => Q f s') E s) : wpAny M A (execs (st :: rest) env) Q E s :=
  wpAny_execs_cons (wpAny_mono h (fun f s' q => by cases f <;> exact q) fun _ _ e => e)
theorem allLt_mem {d : Nat} {l : List (Addr × Obj)} (h : AllLt d l) (p : Addr × Obj) (hp : p ∈ l) : p.1 < d := by
  induction l with
  | nil => cases hp
  | cons q r ih =>
    rcases List.mem_cons.mp hp with rfl | hp
    · exact h.1
    · exact ih h.2 hp
/-- a turn's end -/
noncomputable def TurnEnd (h₀ : Heap) (L : Addr) (s : Shared) (Q : Flow → Shared → Prop) (I : Addr) (io : Obj) (Jn : (Str → Option Value) → List (Addr × Obj) → Prop) (f : Flow) (s₂ : Shared) : Prop :=
  match f with
  | .ret v => Q (.ret v) s₂
  | .brk => Q .next s₂
  | _ => ∃ h' tk m' news', s₂ = { s with heap := h', toks := tk } ∧ Fr h₀ L h' m' ∧ News h₀ L h' ((I, io) :: news') ∧ (∀ p ∈ news', p.1 ≠ I) ∧ Jn m' news'
section
variable {prog : Program} {w : World} {A : Around} {E : Value → Shared → Prop} {s : Shared} {env : Env} {h₀ : Heap} {x : Str} {body : List Stmt} {Q : Flow → Shared → Prop}
/-- a walk whose footprint is its iterator and what stands in h₀ -/
theorem loop_of_walk {I : Addr} {fp : List Addr} {n : Nat} {P : Nat → Value → Prop} {St : Nat → Heap → Prop} {m₀ : Str → Option Value} {news : List (Addr × Obj)} {s₂ : Shared}
    (W : Walks prog w A I fp [I] n P St) (J : Nat → (Str → Option Value) → List (Addr × Obj) → Prop) (hI : I ∈ fp) (hfp : ∀ b ∈ fp, b ≠ I → ∃ o, h₀.get? b = some o)
    (hs : ∃ h tk, s₂ = { s with heap := h, toks := tk }) (hst : St 0 s₂.heap) (F : Fr h₀ env.locals s₂.heap m₀) (N : News h₀ env.locals s₂.heap news) (hIL : I ≠ env.locals) (hI0 : h₀.get? I = none) (hIo : ∃ o, s₂.heap.get? I = some o) (hIn : ∀ p ∈ news, p.1 ≠ I) (hj : J 0 m₀ news)
    (hIs : ∀ i h, St i h → ∃ o, h.get? I = some o)
    (turn : ∀ i v m₁ news₁ h tk io, i < n → P i v → J i m₁ news₁ → (∀ p ∈ news₁, p.1 ≠ I) → Fr h₀ env.locals h (fun y => if y = x then some v else m₁ y) → News h₀ env.locals h ((I, io) :: news₁) →
      wpAny (model prog w) A (execs body env) (TurnEnd h₀ env.locals s Q I io (J (i + 1))) E { s with heap := h, toks := tk })
    (done : ∀ m₁ news₁ h tk, J n m₁ news₁ → Fr h₀ env.locals h m₁ → News h₀ env.locals h news₁ → Q .next { s with heap := h, toks := tk }) :
    LoopAtV prog w A h₀ env x body Q E (.ref I) s₂ := by
  obtain ⟨h, tk, rfl⟩ := hs
  have hLfp : env.locals ∉ fp := fun hm => by
    by_cases q : env.locals = I
    · exact hIL q.symm
    · obtain ⟨o, ho⟩ := hfp _ hm q
      exact absurd (Nat.lt_of_lt_of_le (Heap.lt_size ho) F.above) (Nat.lt_irrefl _)
  refine ⟨I, fp, [I], n, P, St, m₀, news, J, rfl, W, hLfp, fun b hb => by rw [List.mem_singleton.mp hb]; exact hI0, fun p hp hm => hIn p hp (List.mem_singleton.mp hm), hst, F, N, hj, ?_, fun h' tk' m' news' F' N' _ hJ => done m' news' h' tk' hJ F' N'⟩
  rintro i v m₁ news₁ s₁ own ⟨h₁, tk₁, rfl⟩ hi hP hJ hnw hown hget hall hst₁ F₁ N₁
  obtain ⟨io, hio⟩ := hIs _ _ hst₁
  have hmem : (I, io) ∈ own := hall I hI hI0 io hio
  have hsub : ∀ q ∈ own, q = (I, io) := fun q hq => by
    have h2 := N₁ q (List.mem_append_left _ hq)
    by_cases e : q.1 = I
    · have h3 := hget q hq
      rw [e, hio] at h3
      cases q; cases e; cases h3; rfl
    · obtain ⟨o, ho⟩ := hfp _ (hown q hq) e
      rw [h2.2.2] at ho; cases ho
  refine wpAny_mono (turn i v m₁ news₁ h₁ tk₁ io hi hP hJ (fun p hp e => hnw p hp (List.mem_singleton.mpr e)) F₁ fun q hq => ?_) (fun f s₃ e => ?_) fun _ _ e => e
  · rcases List.mem_cons.mp hq with rfl | hq
    · exact N₁ _ (List.mem_append_left _ hmem)
    · exact N₁ q (List.mem_append_right _ hq)
  · have fin : (∃ h' tk m' news', s₃ = { s with heap := h', toks := tk } ∧ Fr h₀ env.locals h' m' ∧ News h₀ env.locals h' ((I, io) :: news') ∧ (∀ p ∈ news', p.1 ≠ I) ∧ J (i + 1) m' news') →
        LoopStepU h₀ env.locals [I] own (J (i + 1)) { s with heap := h₁, toks := tk₁ } .next s₃ := by
      rintro ⟨h', tk, m', news', rfl, F', N', hn, hm⟩
      exact ⟨rfl, h', tk, m', news', rfl, F', fun p hp => (List.mem_append.mp hp).elim (fun q => by rw [hsub p q]; exact N' _ (.head _)) fun q => N' p (.tail _ q), fun p hp hm => hn p hp (List.mem_singleton.mp hm), hm⟩
    cases f with
    | ret v => exact .ret e
    | brk => exact .brk e
    | next => exact .next (fin e)
    | cont => exact .cont (fin e)
theorem range_loop {r : Addr} {n : Nat} {t u v : Tok} {m₀ : Str → Option Value} {news : List (Addr × Obj)} (J : Nat → (Str → Option Value) → List (Addr × Obj) → Prop)
    (hh : A.handled = none) (hr : IsRange s.heap r 0 n 1 t u v) (hn : n < 2 ^ 60) (F : Fr h₀ env.locals s.heap m₀) (N : News h₀ env.locals s.heap news) (hj : J 0 m₀ news)
    (turn : ∀ i t m₁ news₁ h tk I io, i < n → J i m₁ news₁ → (∀ p ∈ news₁, p.1 ≠ I) → Fr h₀ env.locals h (fun y => if y = x then some (.int (i : Int) t) else m₁ y) → News h₀ env.locals h ((I, io) :: news₁) →
      wpAny (model prog w) A (execs body env) (TurnEnd h₀ env.locals s Q I io (J (i + 1))) E { s with heap := h, toks := tk })
    (done : ∀ m₁ news₁ h tk, J n m₁ news₁ → Fr h₀ env.locals h m₁ → News h₀ env.locals h news₁ → Q .next { s with heap := h, toks := tk }) :
    wpAny (model prog w) A (pyIter (.ref r)) (fun it s₂ => LoopAtV prog w A h₀ env x body Q E it s₂) E s := by
  have hsm : Builtin.Range.small 0 n 1 = true := small_one (by omega) (by omega) (by omega) (by omega)
  have hsz : Builtin.Range.rangeSize 0 n 1 = n := by
    unfold Builtin.Range.rangeSize
    rw [if_pos (by decide)]
    split <;> omega
  refine wpAny_pyIter_range hr hsm ?_
  rw [hsz]
  refine loop_of_walk (Walks.range hh s.heap.objs.size 0 1 n) J (.head _) (fun b hb e => absurd (List.mem_singleton.mp hb) e) ⟨_, _, rfl⟩ ?_ (F.push _) (fun p hp => ⟨Heap.get?_push_of_some _ (N p hp).1, (N p hp).2⟩) (Nat.ne_of_gt F.ns.lt) (next_is_new F) ⟨_, Heap.get?_push_size _ rfl⟩
    (fun p hp => Nat.ne_of_lt (Heap.lt_size (N p hp).1)) hj (fun i h e => ⟨_, e⟩) ?_ done
  · have := Heap.get?_push_size s.heap (o := { cls := .type "range_iterator", data := .fields #[rawInt 0, rawInt n, rawInt 1] }) rfl
    simpa [IsRangeIter] using this
  · rintro i v m₁ news₁ h tk io hi ⟨t, rfl⟩ hJ hne F₁ N₁
    have := turn i t m₁ news₁ h tk s.heap.objs.size io hi hJ hne
    simp only [Int.mul_one, Int.zero_add] at F₁
    exact this F₁ N₁
theorem list_loop {l : Addr} {vs : List Value} {m₀ : Str → Option Value} {news : List (Addr × Obj)} (J : Nat → (Str → Option Value) → List (Addr × Obj) → Prop)
    (hh : A.handled = none) (hl : h₀.IsList l vs.toArray) (F : Fr h₀ env.locals s.heap m₀) (N : News h₀ env.locals s.heap news) (hj : J 0 m₀ news)
    (turn : ∀ i v m₁ news₁ h tk I io, vs[i]? = some v → J i m₁ news₁ → (∀ p ∈ news₁, p.1 ≠ I) → Fr h₀ env.locals h (fun y => if y = x then some v else m₁ y) → News h₀ env.locals h ((I, io) :: news₁) →
      wpAny (model prog w) A (execs body env) (TurnEnd h₀ env.locals s Q I io (J (i + 1))) E { s with heap := h, toks := tk })
    (done : ∀ m₁ news₁ h tk, J vs.length m₁ news₁ → Fr h₀ env.locals h m₁ → News h₀ env.locals h news₁ → Q .next { s with heap := h, toks := tk }) :
    wpAny (model prog w) A (pyIter (.ref l)) (fun it s₂ => LoopAtV prog w A h₀ env x body Q E it s₂) E s := by
  have hls : s.heap.IsList l vs.toArray := hl.at fun o e => F.keep l o e
  obtain ⟨ol, hol, _⟩ := id hl
  have hlt : l < s.heap.objs.size := Heap.lt_size (F.keep _ _ hol)
  refine wpAny_pyIter_list hls ?_
  have W := Walks.list (prog := prog) (w := w) hh s.heap.objs.size l (Nat.ne_of_lt hlt) vs.toArray
  rw [List.size_toArray] at W
  refine loop_of_walk W J (.head _) (fun b hb e => ?_) ⟨_, _, rfl⟩ ⟨⟨_, Heap.get?_push_size _ rfl, rfl, rfl⟩, hls.at fun o e => Heap.get?_push_of_some _ e⟩ (F.push _) (fun p hp => ⟨Heap.get?_push_of_some _ (N p hp).1, (N p hp).2⟩) (Nat.ne_of_gt F.ns.lt) (next_is_new F) ⟨_, Heap.get?_push_size _ rfl⟩
    (fun p hp => Nat.ne_of_lt (Heap.lt_size (N p hp).1)) hj (fun i h e => let ⟨⟨o, ho, _⟩, _⟩ := e; ⟨o, ho⟩) ?_ done
  · rcases List.mem_cons.mp hb with q | hb
    · exact absurd q e
    · exact ⟨ol, (List.mem_singleton.mp hb) ▸ hol⟩
  · rintro i v m₁ news₁ h tk io hi hv hJ hne F₁ N₁
    exact turn i v m₁ news₁ h tk s.heap.objs.size io (by simpa using hv) hJ hne F₁ N₁
theorem item_h0 {value slice : Expr} {l : Addr} {vs : List Value} {L : Addr} {m : Str → Option Value} {i : Nat} {u : Tok} {v : Value} {Q : Value → Shared → Prop} (hl : h₀.IsList l vs.toArray) (F : Fr h₀ L s.heap m) (hfit : i < 2 ^ 60) (hx : vs[i]? = some v) (h : Q v s)
    (hs : subscripted slice false (.ref l) (.int i u) = operate [.ref l, .int i u] (getItem (.ref l) (.int i u)) := by with_unfolding_all rfl) :
    wpAny (model prog w) A (subscriptTail value slice (.ref l) (.int i u)) Q E s :=
  have hl' := hl.at fun o e => F.keep l o e
  tail_any hl'.typeIs slot_list_getitem.lookup (wpAny_getItem_list hl' (by omega) (by omega) (by simpa using hx) h) hs
theorem mapOf_keeps {h h' : Heap} {K : Type} [DecidableEq K] {knd : KeyKind prog w K} {d : Addr} {f : K → Option Value} (hm : h.MapOf knd d f) (k : h.StaysIn h') : h'.MapOf knd d f :=
  let ⟨o, es, ep, ho, r⟩ := hm; ⟨o, es, ep, k _ _ ho, r⟩
theorem dict_h0 {value slice : Expr} {d : Addr} {f : Str → Option Value} {L : Addr} {m : Str → Option Value} {x : Str} {u : Tok} {v : Value} {Q : Value → Shared → Prop} (hm : h₀.MapOf (strKind prog w) d f) (F : Fr h₀ L s.heap m) (hx : f x = some v) (h : Q v { s with toks := s.toks + 1 })
    (hs : subscripted slice false (.ref d) (.str x u) = operate [.ref d, .str x u] (getItem (.ref d) (.str x u)) := by with_unfolding_all rfl) :
    wpAny (model prog w) A (subscriptTail value slice (.ref d) (.str x u)) Q E s :=
  have hm' := mapOf_keeps hm F.keep
  tail_any hm'.typeIs slot_dict_getitem.lookup (wpAny_getItem_of (strKind_is prog w x u) hm' hx h) hs
theorem dict_miss {value slice : Expr} {d : Addr} {f : Str → Option Value} {L : Addr} {m : Str → Option Value} {x : Str} {u : Tok} {Q : Value → Shared → Prop} (hd : (d == sysModules) = false) (hh : A.handled = none) (hm : h₀.MapOf (strKind prog w) d f) (F : Fr h₀ L s.heap m) (hx : f x = none)
    (h : ∀ h' e, Heap.MadeExcOf s.heap h' e (.type "KeyError") [.str x u] → E (.ref e) { s with heap := h', toks := s.toks + 1 })
    (hs : subscripted slice false (.ref d) (.str x u) = operate [.ref d, .str x u] (getItem (.ref d) (.str x u)) := by with_unfolding_all rfl) :
    wpAny (model prog w) A (subscriptTail value slice (.ref d) (.str x u)) Q E s :=
  have hm' := mapOf_keeps hm F.keep
  tail_any hm'.typeIs slot_dict_getitem.lookup (getItem_missing hd hh hm' hx h) hs
theorem len_h0 {l : Addr} {vs : List Value} {L : Addr} {m : Str → Option Value} {Q : Value → Shared → Prop} (hl : h₀.IsList l vs.toArray) (F : Fr h₀ L s.heap m) (hfit : vs.length < 2 ^ 60) (h : Q (.int vs.length (s.toks + 1)) { s with toks := s.toks + 1 + 1 }) :
    wpAny (model prog w) A (call (.builtin "len") [.ref l]) Q E s :=
  call_len_list (hl.at fun o e => F.keep l o e) (by rw [List.size_toArray]; omega) (by rw [List.size_toArray]; exact h)
end
end Mine
end -- B2
section -- K1
open PySem PySem.W PyProof.Rows PySem.Calls PySem.Spec
set_option maxHeartbeats 1000000
namespace Mine
section
variable {prog : Program} {w : World} {A : Around} {E : Value → Shared → Prop} {h : Heap} {g : Array GenState} {d : Drawn} {t : Nat} {os : OsState} {a : Addr} {o : Obj}
theorem lk_list_keys : typeLookup (.type "list") "keys" = pure none := by rw [typeLookup_type, builtinLookup_eq_fast]; kernel_rfl
theorem lk_list_ga : typeLookup (.type "list") "__getattr__" = pure none := by rw [typeLookup_type, builtinLookup_eq_fast]; kernel_rfl
theorem sub_ae : isSubtype (.type "AttributeError") (.type "AttributeError") = pure true := by rw [isSubtype_type]; kernel_rfl
theorem raise_attr {α : Type} {ob : Value} {name msg : Str} {Q : α → Shared → Prop} (hh : A.handled = none) (hm : msg.length ≤ 1000)
    (hE : ∀ h' tk e, h.StaysIn h' → (∃ o, h'.get? e = some o ∧ o.cls = .type "AttributeError") → E (.ref e) ⟨h', g, d, tk, os⟩) :
    wpAny (model prog w) A (raiseAttrError (α := α) ob name msg) Q E ⟨h, g, d, t, os⟩ := by
  unfold raiseAttrError
  have f1 := sub_ae
  have f2 : (((Manifest.find? "AttributeError").elim false fun t => t.mro.contains "StopIteration" || t.mro.contains "SystemExit") = true) = False := by
    rw [find?_eq_fast]; simp only [eq_iff_iff, iff_false]; intro h; revert h; decide +kernel
  repeat (any_goals (first | assumption | wp_step))
  unfold raiseNew
  refine wpAny_bind (wpAny_handled ?_)
  rw [hh]
  refine wpAny_bind (wpAny_pure (wpAny_throw ?_))
  refine hE _ _ _ (fun b o e => ?_) ?_
  · refine (Heap.get?_update_other _ _ ?_).trans (Heap.get?_push_of_some _ (Heap.get?_push_of_some _ e))
    have := Heap.lt_size e
    rw [Heap.size_push]
    exact Nat.ne_of_gt (Nat.lt_succ_of_lt this)
  · exact ⟨_, Heap.get?_update_self _ (Heap.get?_push_size _ rfl) rfl, rfl⟩
theorem keys_entry {tk : Tok} {Q : Fin → Shared → Prop} {its : Array Value} {n : Nat} (hh : A.handled = none) (hx : h.get? a = some (⟨.type "list", none, .seq its n, #[]⟩ : Obj))
    (hE : ∀ h' tk e, h.StaysIn h' → (∃ o, h'.get? e = some o ∧ o.cls = .type "AttributeError") → E (.ref e) ⟨h', g, d, tk, os⟩) :
    wpAny (model prog w) A (Builtin.«object.__getattribute__» ⟨[.ref a, .str "keys" tk], []⟩) Q E ⟨h, g, d, t, os⟩ := by
  have hT : (⟨h, g, d, t, os⟩ : Shared).TypeIs (.ref a) "list" := ⟨_, hx, rfl⟩
  have f4 := lk_list_keys
  repeat (any_goals (first | assumption | wp_step))
  refine raise_attr hh ?_ hE
  rw [find?_eq_fast]
  decide +kernel
theorem keys_call {tk : Tok} {R : Result → Shared → Prop} {its : Array Value} {n : Nat} (hh : A.handled = none) (hx : h.get? a = some (⟨.type "list", none, .seq its n, #[]⟩ : Obj))
    (hR : ∀ h' tk e, h.StaysIn h' → (∃ o, h'.get? e = some o ∧ o.cls = .type "AttributeError") → R (.error (.ref e)) ⟨h', g, d, tk, os⟩) :
    codeAny (model prog w) A (.call (.builtin "list.__getattribute__") ⟨[.ref a, .str "keys" tk], []⟩) R ⟨h, g, d, t, os⟩ :=
  codeAny_call_builtin F.slot_list_getattribute.plain F.entry_list_ga (F.slot_list_getattribute.check _ _ _ _ _ _ _ _ (show (⟨h, g, d, t, os⟩ : Shared).TypeIs (.ref a) "list" from ⟨_, hx, rfl⟩) (F.args_list_getattribute_2 _ _) (keys_entry (A := A.in1) hh hx hR))
theorem keys_by {tk : Tok} {Q : Value → Shared → Prop} {its : Array Value} {n : Nat} (hh : A.handled = none) (hx : h.get? a = some (⟨.type "list", none, .seq its n, #[]⟩ : Obj))
    (hE : ∀ h' tk e, h.StaysIn h' → (∃ o, h'.get? e = some o ∧ o.cls = .type "AttributeError") → E (.ref e) ⟨h', g, d, tk, os⟩) : wpAny (model prog w) A (getAttrBy (.ref a) (.str "keys" tk) false) Q E ⟨h, g, d, t, os⟩ := by
  have hT : (⟨h, g, d, t, os⟩ : Shared).TypeIs (.ref a) "list" := ⟨_, hx, rfl⟩
  have f2 := F.slot_list_getattribute.lookup
  have f3 := F.slot_list_getattribute.bind (.ref a)
  repeat (any_goals (first | assumption | wp_step))
  refine keys_call hh hx fun h' tk' e st he => ?_
  obtain ⟨o, ho, hoc⟩ := id he
  have hTe : (⟨h', g, d, tk', os⟩ : Shared).TypeIs (.ref e) "AttributeError" := ⟨_, ho, hoc⟩
  show wpAny _ _ (getattributeRaised (Value.ref a) (Value.str (Str.ofString "keys") tk) (Value.type "list") (Value.ref e) none false false) _ _ _
  unfold getattributeRaised
  refine wpAny_bind (wpAny_isInstance hTe sub_ae ?_)
  simp only [if_true]
  have f5 := lk_list_ga
  refine wpAny_bind ?_
  show wpAny _ _ (typeLookup (.type "list") "__getattr__") _ _ _
  rw [f5]
  refine wpAny_pure ?_
  exact wpAny_throw (hE h' tk' e st he)
theorem keys_none {Q : Option Value → Shared → Prop} {its : Array Value} {n : Nat} (hh : A.handled = none) (hx : h.get? a = some (⟨.type "list", none, .seq its n, #[]⟩ : Obj))
    (hQ : ∀ h' tk, h.StaysIn h' → Q none ⟨h', g, d, tk, os⟩) : wpAny (model prog w) A (getAttr? (.ref a) "keys") Q E ⟨h, g, d, t, os⟩ := by
  unfold getAttr? getAttrBy?
  refine wpAny_bind (wpAny_mkText ?_)
  refine wpAny_bind (wpAny_attempt (keys_by hh hx fun h' tk' e st he => ?_))
  obtain ⟨o, ho, hoc⟩ := id he
  have hTe : (⟨h', g, d, tk', os⟩ : Shared).TypeIs (.ref e) "AttributeError" := ⟨_, ho, hoc⟩
  refine wpAny_bind (wpAny_isInstance hTe sub_ae ?_)
  exact wpAny_pure (hQ h' tk' st)
end
end Mine
end -- K1
section -- K2
open PySem PySem.W PyProof.Rows PySem.Calls PySem.Spec
set_option maxHeartbeats 1000000
namespace Mine
theorem entry_update_loop : entryFor table "dict.update.loop" = some Builtin.«dict.update.loop» := entryFor_of_tree (by kernel_rfl)
theorem plain_update_loop : plainId "dict.update.loop" = true := by decide +kernel
/-- the items are refs to pairs (key, value) -/
noncomputable def PairsIn {prog : Program} {w : World} {K : Type} [DecidableEq K] (knd : KeyKind prog w K) (h : Heap) (its : List Value) (kvs : List (K × Value)) : Prop :=
  its.length = kvs.length ∧ ∀ (i : Nat) (k : K) (v : Value), kvs[i]? = some (k, v) → ∃ T key u, its[i]? = some (.ref T) ∧ h.get? T = some (⟨.type "tuple", none, .seq #[key, v] u, #[]⟩ : Obj) ∧ knd.is k key = true
theorem PairsIn.keeps {prog : Program} {w : World} {K : Type} [DecidableEq K] {knd : KeyKind prog w K} {h h' : Heap} {its : List Value} {kvs : List (K × Value)} (x : PairsIn knd h its kvs) (st : h.StaysIn h') : PairsIn knd h' its kvs :=
  ⟨x.1, fun i k v e => let ⟨T, key, u, a, b, c⟩ := x.2 i k v e; ⟨T, key, u, a, st _ _ b, c⟩⟩
section
variable {prog : Program} {w : World} {K : Type} [DecidableEq K] {knd : KeyKind prog w K} {A : Around} {E : Value → Shared → Prop} {s : Shared} {R : Result → Shared → Prop}
theorem stored_new {kvs : List (K × Value)} {k : K} {v : Value} (h : k ∉ kvs.map (·.1)) : stored kvs k v = kvs ++ [(k, v)] := by
  unfold stored
  rw [if_neg]
  intro e
  obtain ⟨x, hx, e⟩ := List.any_eq_true.mp e
  exact h (List.mem_map.mpr ⟨x, hx, of_decide_eq_true e⟩)
theorem pairs_loop {D I l : Addr} {its : List Value} {n : Nat} {kvs : List (K × Value)} {h₁ : Heap} (hh : A.handled = none) (hDI : D ≠ I) (hlD : l ≠ D) (hlI : l ≠ I) (hD1 : h₁.get? D = none) (hI1 : h₁.get? I = none) (hl : h₁.get? l = some (W.listOf its.toArray n)) (hp : PairsIn knd h₁ its kvs) (hnd : (kvs.map (·.1)).Nodup) (hsz : kvs.length ≤ sizeLine)
    (hR : ∀ h' tk, h'.DictOf knd D kvs → h₁.StaysIn h' → R (.ok (.ret .none)) { s with heap := h', toks := tk }) :
    ∀ (j i : Nat) (h : Heap) (tk : Nat), kvs.length - i = j → i ≤ kvs.length → h₁.StaysIn h → h.DictOf knd D (kvs.take i) → h.IsListIter I l i →
      codeAny (model prog w) A (.builtin "dict.update.loop" ⟨[.ref D, .ref I, rawInt i, .none], []⟩) R { s with heap := h, toks := tk } := by
  intro j
  induction j with
  | zero =>
    intro i h tk hj hi st hd hit
    have hin : i = kvs.length := by omega
    refine codeAny_builtin entry_update_loop ?_
    rw [Around.under_plainId plain_update_loop _]
    show wpAny _ A.in1 (pyNext (.ref I) >>= _) _ _ _
    refine wpAny_bind (wpAny_pyNext_list_end (s := { s with heap := h, toks := tk }) (A := A.in1) (items := its.toArray) hh hit ⟨_, st _ _ hl, rfl, _, rfl⟩ (by simp; have := hp.1; omega) fun h' he => ?_)
    show wpAny _ _ (Builtin.Dict.addKeywords D [] >>= _) _ _ _
    refine wpAny_bind (wpAny_pure (wpAny_pure ?_))
    refine hR h' tk ?_ fun b o e => he b o (fun q => by rw [q, hI1] at e; cases e) (st b o e)
    rw [hin, List.take_of_length_le (Nat.le_refl _)] at hd
    exact hd.extBut he hDI
  | succ j ih =>
    intro i h tk hj hi st hd hit
    have hlt : i < kvs.length := by omega
    have hx : kvs[i]? = some (kvs[i].1, kvs[i].2) := List.getElem?_eq_getElem hlt
    obtain ⟨T, key, u, e1, e2, e3⟩ := hp.2 i _ _ hx
    refine codeAny_builtin entry_update_loop ?_
    rw [Around.under_plainId plain_update_loop _]
    show wpAny _ A.in1 (pyNext (.ref I) >>= _) _ _ _
    refine wpAny_bind (wpAny_pyNext_list_item (s := { s with heap := h, toks := tk }) (items := its.toArray) hit ⟨_, st _ _ hl, rfl, _, rfl⟩ (by simpa using e1) fun h₂ hit₂ hs₂ => ?_)
    have hT2 : h₂.get? T = some (⟨.type "tuple", none, .seq #[key, kvs[i].2] u, #[]⟩ : Obj) := hs₂.extBut T _ (fun q => by rw [q, hI1] at e2; cases e2) (st _ _ e2)
    have st₂ : h₁.StaysIn h₂ := fun b o e => hs₂.extBut b o (fun q => by rw [q, hI1] at e; cases e) (st b o e)
    show wpAny _ A.in1 (holding [Value.ref T] _ >>= _) _ _ _
    refine wpAny_bind (wpAny_holding ?_)
    refine wpAny_bind ?_
    refine wpAny_tryCatch ?_
    unfold Builtin.Dict.pairItems
    refine wpAny_bind (wpAny_typeOf (T := "tuple") ⟨_, hT2, rfl⟩ ?_)
    rw [if_pos (by decide)]
    refine wpAny_bind (wpAny_seqItems hT2 rfl (wpAny_pure ?_))
    show wpAny _ _ (holding [key, kvs[i].2] (dictSet D key kvs[i].2)) _ _ _
    refine wpAny_holding (wpAny_dictSet_pairs (s := { s with heap := h₂, toks := tk }) e3 (hd.sameBut hs₂ hDI) (fun h₃ hd₃ hs₃ => ?_) (by rw [List.length_take]; omega))
    refine wpAny_pure ⟨plainId_quiet plain_update_loop _, ?_⟩
    have hk : kvs[i].1 ∉ (kvs.take i).map (·.1) := by
      rw [List.map_take]
      intro hm
      obtain ⟨a, ha, e⟩ := List.mem_take_iff_getElem.mp hm
      have h1 : a < kvs.length := by simp at ha; omega
      have := (List.getElem_inj (h₀ := by simpa using h1) (h₁ := by simpa using hlt) hnd).mp (by simpa using e)
      simp at ha; omega
    rw [stored_new hk, show kvs.take i ++ [(kvs[i].1, kvs[i].2)] = kvs.take (i + 1) by rw [List.take_add_one, hx]; rfl] at hd₃
    have := ih (i + 1) h₃ (tk + 1) (by omega) (by omega) (fun b o e => hs₃.extBut b o (fun q => by rw [q, hD1] at e; cases e) (st₂ b o e)) hd₃ (let ⟨o, ho, x⟩ := hit₂; ⟨o, hs₃.extBut I o (Ne.symm hDI) ho, x⟩)
    simpa [rawInt] using this
theorem dict_pairs {l : Addr} {its : List Value} {n : Nat} {kvs : List (K × Value)} {Q : Value → Shared → Prop} (hh : A.handled = none) (hl : s.heap.get? l = some (W.listOf its.toArray n)) (hp : PairsIn knd s.heap its kvs) (hnd : (kvs.map (·.1)).Nodup) (hsz : kvs.length ≤ sizeLine)
    (h : ∀ h' tk, h'.DictOf knd s.heap.objs.size kvs → s.heap.StaysIn h' → Q (.ref s.heap.objs.size) { s with heap := h', toks := tk }) :
    wpAny (model prog w) A (call (.type "dict") [.ref l]) Q E s := by
  refine callType_codes (Q₁ := fun obj s₁ => obj = .ref s.heap.objs.size ∧ s₁ = { s with heap := s.heap.push { cls := .type "dict", data := .dict #[] } }) F.kt_called_dict (F.kt_typeCall_dict_1 _) F.entry_dict_init (kt_code_dict_new _ ⟨rfl, rfl⟩) ?_
  rintro obj s₁ ⟨rfl, rfl⟩
  have hnew : (s.heap.push { cls := .type "dict", data := .dict #[] }).DictOf knd s.heap.objs.size [] := Heap.DictOf.new s.heap
  have hll : l < s.heap.objs.size := Heap.lt_size hl
  have hl' := Heap.get?_push_of_some { cls := .type "dict", data := .dict #[] } hl
  refine ⟨hnew.typeIs, F.args_dict_init_2 _ _, ?_⟩
  unfold Builtin.«dict.__init__»
  refine wpAny_bind ?_
  unfold Builtin.Dict.selfAndRest
  refine wpAny_bind (wpAny_notOrdered_dict hnew.typeIs ?_)
  show wpAny _ _ (pure (s.heap.objs.size, [Value.ref l])) _ _ _
  refine wpAny_pure ?_
  show wpAny _ _ (Builtin.Dict.updateFrom "dict.__init__" s.heap.objs.size (.ref l) [] .none) _ _ _
  unfold Builtin.Dict.updateFrom
  refine wpAny_bind (wpAny_typeOf (T := "list") ⟨_, hl', rfl⟩ ?_)
  rw [if_pos (by decide)]
  refine wpAny_bind (keys_none (A := A.in1.in1) hh hl' fun h₂ tk₂ st₂ => ?_)
  rw [if_pos (show (none : Option Value).isNone = true from rfl)]
  refine wpAny_bind (wpAny_rule ?_)
  refine wpAny_bind (wpAny_pyIter_list (s := ⟨h₂, s.gens, s.drawn, tk₂, s.os⟩) (items := its.toArray) ⟨_, st₂ _ _ hl', rfl, _, rfl⟩ ?_)
  refine wpAny_pure ⟨plainId_quiet plain_update_loop _, ?_⟩
  have hD2 := hnew.mapOf
  obtain ⟨oD, esD, epD, hD, rD⟩ := id hnew
  have hDI : s.heap.objs.size < h₂.objs.size := Heap.lt_size (st₂ _ _ hD)
  refine pairs_loop (s := s) (A := A.in1) (D := s.heap.objs.size) (I := h₂.objs.size) (l := l) (its := its) (n := n) (kvs := kvs) (h₁ := s.heap) hh (Nat.ne_of_lt hDI) (Nat.ne_of_lt hll) (Nat.ne_of_lt (Nat.lt_trans hll hDI)) (Heap.get?_none_of_le (Nat.le_refl _)) (Heap.get?_none_of_le (Nat.le_of_lt hDI)) hl hp hnd hsz (fun h' tk hd st => ⟨rfl, h h' tk hd st⟩) kvs.length 0 _ _ (Nat.sub_zero _) (Nat.zero_le _) (fun b o e => Heap.get?_push_of_some _ (st₂ _ _ (Heap.get?_push_of_some _ e))) ⟨oD, esD, epD, Heap.get?_push_of_some _ (st₂ _ _ hD), rD⟩ ⟨_, Heap.get?_push_size _ rfl, rfl, rfl⟩
end
end Mine
end -- K2
section -- K3
open PySem PySem.W PyProof.Rows PySem.Calls PySem.Spec
set_option maxHeartbeats 1000000
namespace Mine
/-- the ledger with one object changed -/
noncomputable def put (news : List (Addr × Obj)) (D : Addr) (o : Obj) : List (Addr × Obj) := news.map fun q => if q.1 = D then (D, o) else q
theorem put_mem {news : List (Addr × Obj)} {D : Addr} {o o' : Obj} (h : (D, o) ∈ news) : (D, o') ∈ put news D o' :=
  List.mem_map.mpr ⟨(D, o), h, by simp⟩
theorem put_other {news : List (Addr × Obj)} {D : Addr} {o' : Obj} {q : Addr × Obj} (h : q ∈ news) (hn : q.1 ≠ D) : q ∈ put news D o' :=
  List.mem_map.mpr ⟨q, h, by simp [hn]⟩
theorem put_back {news : List (Addr × Obj)} {D : Addr} {o' : Obj} {q : Addr × Obj} (h : q ∈ put news D o') : q = (D, o') ∨ (q ∈ news ∧ q.1 ≠ D) := by
  obtain ⟨x, hx, e⟩ := List.mem_map.mp h
  by_cases c : x.1 = D
  · rw [if_pos c] at e; exact .inl e.symm
  · rw [if_neg c] at e; subst e; exact .inr ⟨hx, c⟩
theorem news_put {h₀ h h' : Heap} {L D : Addr} {o o' : Obj} {news : List (Addr × Obj)} (N : News h₀ L h news) (hm : (D, o) ∈ news) (hs : Heap.SameBut D h h') (ho : h'.get? D = some o') : News h₀ L h' (put news D o') := by
  intro q hq
  rcases put_back hq with rfl | ⟨hq, hn⟩
  · exact ⟨ho, (N _ hm).2⟩
  · exact ⟨(hs.2 _ hn).trans (N q hq).1, (N q hq).2⟩
/-- what a change of one object leaves -/
structure Turned (news news' : List (Addr × Obj)) (D : Addr) (o' : Obj) : Prop where
  new : (D, o') ∈ news'
  old : ∀ q ∈ news, q.1 ≠ D → q ∈ news'
  back : ∀ q ∈ news', q = (D, o') ∨ (q ∈ news ∧ q.1 ≠ D)
theorem put_turned {news : List (Addr × Obj)} {D : Addr} {o o' : Obj} (hm : (D, o) ∈ news) : Turned news (put news D o') D o' := ⟨put_mem hm, fun _ h hn => put_other h hn, fun _ h => put_back h⟩
theorem news_ne {h₀ h : Heap} {L : Addr} {news : List (Addr × Obj)} {q r : Addr × Obj} (N : News h₀ L h news) (hq : q ∈ news) (hr : r ∈ news) (hne : q.2 ≠ r.2) : q.1 ≠ r.1 := fun e => by
  have h1 := (N q hq).1
  rw [e, (N r hr).1] at h1
  exact hne (Option.some.inj h1).symm
section
variable {prog : Program} {w : World} {A : Around} {E : Value → Shared → Prop} {s : Shared} {h₀ : Heap} {L D : Addr} {m : Str → Option Value} {news : List (Addr × Obj)}
theorem append_M {its : List Value} {n : Nat} {x : Value} {Q : Value → Shared → Prop} (F : Fr h₀ L s.heap m) (N : News h₀ L s.heap news) (hm : (D, W.listOf its.toArray n) ∈ news) (hz : its.length ≤ 1000000)
    (h : ∀ h' news', Fr h₀ L h' m → News h₀ L h' news' → Turned news news' D (W.listOf (its ++ [x]).toArray (n + 1)) → Q .none { s with heap := h' }) : wpAny (model prog w) A (call (.builtin "list.append") [.ref D, x]) Q E s :=
  have z := N _ hm
  append_at z.1 (fun h' hs ho' => by
    rw [List.push_toArray] at ho'
    exact h h' _ (F.change hs z.2.1 z.2.2) (news_put N hm hs ho') (put_turned hm)) (by rw [List.size_toArray]; have : sizeLine = 2 ^ 24 := rfl; omega)
theorem item_M {value slice : PySem.Expr} {l : Addr} {vs : List Value} {k : Nat} {i : Nat} {u : Tok} {v : Value} {Q : Value → Shared → Prop} (N : News h₀ L s.heap news) (hm : (l, W.listOf vs.toArray k) ∈ news) (hfit : i < 2 ^ 60) (hx : vs[i]? = some v) (h : Q v s)
    (hs : subscripted slice false (.ref l) (.int i u) = operate [.ref l, .int i u] (getItem (.ref l) (.int i u)) := by with_unfolding_all rfl) :
    wpAny (model prog w) A (subscriptTail value slice (.ref l) (.int i u)) Q E s :=
  have hl' : s.heap.IsList l vs.toArray := ⟨_, (N _ hm).1, rfl, _, rfl⟩
  tail_any hl'.typeIs slot_list_getitem.lookup (wpAny_getItem_list hl' (by omega) (by omega) (by simpa using hx) h) hs
theorem getItem_M {l : Addr} {vs : List Value} {k : Nat} {i : Nat} {u : Tok} {v : Value} {Q : Value → Shared → Prop} (N : News h₀ L s.heap news) (hm : (l, W.listOf vs.toArray k) ∈ news) (hfit : i < 2 ^ 60) (hx : vs[i]? = some v) (h : Q v s) :
    wpAny (model prog w) A (getItem (.ref l) (.int i u)) Q E s :=
  have hl' : s.heap.IsList l vs.toArray := ⟨_, (N _ hm).1, rfl, _, rfl⟩
  wpAny_getItem_list hl' (by omega) (by omega) (by simpa using hx) h
theorem set1_M {x y v : Value} {n : Nat} {t : Tok} {Q : Unit → Shared → Prop} (F : Fr h₀ L s.heap m) (N : News h₀ L s.heap news) (hm : (D, W.listOf (List.toArray [x, y]) n) ∈ news)
    (h : ∀ h' news', Fr h₀ L h' m → News h₀ L h' news' → Turned news news' D (W.listOf (List.toArray [x, v]) n) → Q () { s with heap := h' }) : wpAny (model prog w) A (setItem (.ref D) (.int 1 t) v) Q E s := by
  have z := N _ hm
  refine ki_setAt z.1 (by decide) (by decide) (by simp) (h _ (put news D (W.listOf (List.toArray [x, v]) n)) (F.change (Heap.SameBut.update ..) z.2.1 z.2.2) (news_put N hm (Heap.SameBut.update ..) ?_) (put_turned hm))
  have q := PySem.IsL.update z.1 (fun a : Array Value => a.setIfInBounds 1 v)
  simpa using q
theorem len_M {l : Addr} {vs : List Value} {kl : Nat} {Q : Value → Shared → Prop} (N : News h₀ L s.heap news) (hm : (l, W.listOf vs.toArray kl) ∈ news) (hfit : vs.length < 2 ^ 60) {j : Nat} (hj : vs.length = j) (h : Q (.int j (s.toks + 1)) { s with toks := s.toks + 1 + 1 }) :
    wpAny (model prog w) A (call (.builtin "len") [.ref l]) Q E s :=
  have hl : s.heap.IsList l vs.toArray := ⟨_, (N _ hm).1, rfl, _, rfl⟩
  call_len_list hl (by rw [List.size_toArray]; omega) (by rw [List.size_toArray, hj]; exact h)
theorem method_M {name : Str} {id : String} {pl : Sem Bool} {l : Addr} {vs : List Value} {kl : Nat} {Q : Value × List Value → Shared → Prop} (slot : Slot "list" name id) (hty : typeOf (.builtin id) = pure (.type "method_descriptor"))
    (N : News h₀ L s.heap news) (hm : (l, W.listOf vs.toArray kl) ∈ news) (h : Q (.builtin id, [.ref l]) s) : wpAny (model prog w) A (getMethod (.ref l) name pl) Q E s :=
  have hl : s.heap.IsList l vs.toArray := ⟨_, (N _ hm).1, rfl, _, rfl⟩
  getMethod_list_of slot hty hl ⟨_, (N _ hm).1, rfl⟩ h
end
section
variable {prog : Program} {w : World} {K : Type} [DecidableEq K] {knd : KeyKind prog w K} {A : Around} {E : Value → Shared → Prop} {s : Shared} {h₀ : Heap} {L d : Addr} {m : Str → Option Value} {news : List (Addr × Obj)} {o : Obj} {kvs : List (K × Value)}
noncomputable abbrev viewObj (d : Addr) : Obj := { cls := .type "dict_items", data := .fields #[.ref d] }
theorem itemsMethod_M {pl : Sem Bool} {Q : Value × List Value → Shared → Prop} (N : News h₀ L s.heap news) (hm : (d, o) ∈ news) (hd : o.IsDictOf knd kvs) (h : Q (.builtin "dict.items", [.ref d]) s) : wpAny (model prog w) A (getMethod (.ref d) "items" pl) Q E s :=
  have hD : s.heap.DictOf knd d kvs := Heap.dictOf_iff.mpr ⟨o, (N _ hm).1, hd⟩
  getMethod_builtin hD.typeIs F.plainAttrs_dict F.slot_dict_items F.type_dict_items hD.mapOf.noDict h
theorem items_M {Q : Value → Shared → Prop} (F : Fr h₀ L s.heap m) (N : News h₀ L s.heap news) (hm : (d, o) ∈ news) (hd : o.IsDictOf knd kvs) (hsys : (d == sysModules) = false)
    (h : ∀ v h', Fr h₀ L h' m → News h₀ L h' ((v, viewObj d) :: news) → (∀ q ∈ news, q.1 < v) → Q (.ref v) { s with heap := h' }) : wpAny (model prog w) A (call (.builtin "dict.items") [.ref d]) Q E s := by
  have hD : s.heap.DictOf knd d kvs := Heap.dictOf_iff.mpr ⟨o, (N _ hm).1, hd⟩
  exact call_meetsIn PySem.F.slot_dict_items hD.typeIs PySem.F.entry_dict_items (PySem.F.args_dict_items_1 _) (meets_dict_items knd d hsys) ⟨⟨kvs, hD⟩, h _ _ (F.push _) (News.push F N _) fun q hq => Heap.lt_size (N q hq).1⟩
/-- refs to pairs of the ledger -/
noncomputable def PairsL (knd : KeyKind prog w K) (news : List (Addr × Obj)) (its : List Value) (kvs : List (K × Value)) : Prop :=
  its.length = kvs.length ∧ ∀ (i : Nat) (k : K) (v : Value), kvs[i]? = some (k, v) → ∃ T key u, its[i]? = some (.ref T) ∧ (T, (⟨.type "tuple", none, .seq #[key, v] u, #[]⟩ : Obj)) ∈ news ∧ knd.is k key = true
theorem PairsL.more {news news' : List (Addr × Obj)} {its : List Value} (x : PairsL knd news its kvs) (hs : ∀ q ∈ news, q ∈ news') : PairsL knd news' its kvs :=
  ⟨x.1, fun i k v e => let ⟨T, key, u, a, b, c⟩ := x.2 i k v e; ⟨T, key, u, a, hs _ b, c⟩⟩
theorem PairsL.inHeap {news : List (Addr × Obj)} {its : List Value} {h : Heap} (x : PairsL knd news its kvs) (N : News h₀ L h news) : PairsIn knd h its kvs :=
  ⟨x.1, fun i k v e => let ⟨T, key, u, a, b, c⟩ := x.2 i k v e; ⟨T, key, u, a, (N _ b).1, c⟩⟩
theorem PairsL.cons {news : List (Addr × Obj)} {its : List Value} {T : Addr} {key : Value} {k : K} {v : Value} {u : Nat} (x : PairsL knd news its kvs) (hT : (T, (⟨.type "tuple", none, .seq #[key, v] u, #[]⟩ : Obj)) ∈ news) (hk : knd.is k key = true) : PairsL knd news (Value.ref T :: its) ((k, v) :: kvs) := by
  refine ⟨by simp [x.1], fun i k' v' e => ?_⟩
  cases i with
  | zero =>
    simp only [List.getElem?_cons_zero, Option.some.injEq, Prod.mk.injEq] at e
    obtain ⟨rfl, rfl⟩ := e
    exact ⟨T, key, u, rfl, hT, hk⟩
  | succ i => exact x.2 i k' v' (by simpa using e)
theorem listItems_M {v : Addr} {Q : Value → Shared → Prop} (hh : A.handled = none) (F : Fr h₀ L s.heap m) (N : News h₀ L s.heap news) (hv : (v, viewObj d) ∈ news) (hm : (d, o) ∈ news) (hd : o.IsDictOf knd kvs) (hz : kvs.length ≤ 1000000)
    (h : ∀ B h' tk its tups c, Fr h₀ L h' m → News h₀ L h' ((B, W.listOf its.toArray c) :: (tups ++ news)) → (∀ q ∈ news, q.1 < B) → (∀ q ∈ tups, B < q.1) → PairsL knd tups its kvs → Q (.ref B) { s with heap := h', toks := tk }) : wpAny (model prog w) A (call (.type "list") [.ref v]) Q E s := by
  have hD : s.heap.DictOf knd d kvs := Heap.dictOf_iff.mpr ⟨o, (N _ hm).1, hd⟩
  obtain ⟨o', es, ep, r1, r2, r3, r4, r5, r6⟩ := id hD
  have hDA : s.heap.DictAt knd d kvs ep := ⟨o', es, r1, r2, r3, r4, r5, r6⟩
  refine kdx_call (knd := knd) (kvs := kvs) (ep := ep) hh ⟨_, (N _ hv).1, rfl, rfl⟩ hDA (by have : sizeLine = 2 ^ 24 := rfl; omega) fun h' tk acc c as hk hS hl hG hacc => ?_
  have ea : acc = (as.map Value.ref).toArray := by rw [← hacc, Array.toArray_toList]
  have hex : ∀ (l : List Addr), (∀ a ∈ l, a ∈ as) → ∃ tups : List (Addr × Obj), (∀ q ∈ tups, s.heap.objs.size < q.1 ∧ h'.get? q.1 = some q.2) ∧ ∀ a ∈ l, ∃ ob, (a, ob) ∈ tups := by
    intro l
    induction l with
    | nil => exact fun _ => ⟨[], (fun _ h => nomatch h), (fun _ h => nomatch h)⟩
    | cons a l ih =>
      intro hl
      obtain ⟨tups, t1, t2⟩ := ih fun b hb => hl b (.tail _ hb)
      have ha := hl a (.head _)
      obtain ⟨j, hj⟩ := List.mem_iff_getElem?.mp ha
      obtain ⟨key, k, x, e1, e2, e3⟩ := hG.pairs j a hj
      refine ⟨(a, ({ cls := .type "tuple", data := .seq #[key, x] } : Obj)) :: tups, fun q hq => ?_, fun b hb => ?_⟩
      · rcases List.mem_cons.mp hq with rfl | hq
        · exact ⟨hG.above a ha, e3⟩
        · exact t1 q hq
      · rcases List.mem_cons.mp hb with rfl | hb
        · exact ⟨_, .head _⟩
        · obtain ⟨ob, hob⟩ := t2 b hb
          exact ⟨ob, .tail _ hob⟩
  obtain ⟨tups, t1, t2⟩ := hex as fun _ h => h
  refine h s.heap.objs.size h' tk (as.map Value.ref) tups c (F.keeps hk) (fun q hq => ?_) (fun q hq => Heap.lt_size (N q hq).1) (fun q hq => (t1 q hq).1) ⟨by simp [hl], fun i k x e => ?_⟩
  · rcases List.mem_cons.mp hq with rfl | hq
    · exact ⟨by rw [← ea]; exact hS, kdx_fresh F (Nat.le_refl _)⟩
    · rcases List.mem_append.mp hq with hq | hq
      · exact ⟨(t1 q hq).2, kdx_fresh F (Nat.le_of_lt (t1 q hq).1)⟩
      · exact ⟨hk _ _ (N q hq).1, (N q hq).2⟩
  · have hi : i < as.length := by
      rw [hl]
      exact (List.getElem?_eq_some_iff.mp e).1
    obtain ⟨key, k', x', e1, e2, e3⟩ := hG.pairs i as[i] (List.getElem?_eq_getElem hi)
    rw [e] at e1
    cases e1
    obtain ⟨ob, hob⟩ := t2 as[i] (List.getElem_mem hi)
    have := (t1 _ hob).2
    rw [e3] at this
    cases this
    exact ⟨as[i], key, 0, by simp [hi], hob, e2⟩
theorem dictPairs_M {l : Addr} {its : List Value} {c : Nat} {Q : Value → Shared → Prop} (hh : A.handled = none) (F : Fr h₀ L s.heap m) (N : News h₀ L s.heap news) (hbig : h₀.NoLimit) (hl : (l, W.listOf its.toArray c) ∈ news) (hp : PairsL knd news its kvs) (hnd : (kvs.map (·.1)).Nodup) (hz : kvs.length ≤ 1000000)
    (h : ∀ d h' tk o, Fr h₀ L h' m → News h₀ L h' ((d, o) :: news) → (∀ q ∈ news, q.1 < d) → o.IsDictOf knd kvs → (d == sysModules) = false → Q (.ref d) { s with heap := h', toks := tk }) : wpAny (model prog w) A (call (.type "dict") [.ref l]) Q E s := by
  refine dict_pairs hh (N _ hl).1 (hp.inHeap N) hnd (by have : sizeLine = 2 ^ 24 := rfl; omega) fun h' tk hD st => ?_
  obtain ⟨o, ho, hd⟩ := Heap.dictOf_iff.mp hD
  refine h _ h' tk o (F.keeps st) (fun q hq => ?_) (fun q hq => Heap.lt_size (N q hq).1) hd (F.notModules (modules_low hbig))
  rcases List.mem_cons.mp hq with rfl | hq
  · exact ⟨ho, kdx_fresh F (Nat.le_refl _)⟩
  · exact ⟨st _ _ (N q hq).1, (N q hq).2⟩
theorem delItem_M {k : K} {key : Value} {Q : Unit → Shared → Prop} (hkey : knd.is k key = true) (F : Fr h₀ L s.heap m) (N : News h₀ L s.heap news) (hm : (d, o) ∈ news) (hd : o.IsDictOf knd kvs) (hin : (valueAt kvs k).isSome = true) (hz : kvs.length ≤ 1000000)
    (h : ∀ h' o' news', Fr h₀ L h' m → News h₀ L h' news' → Turned news news' d o' → o'.IsDictOf knd (without kvs k) → Q () { s with heap := h', toks := s.toks + 1 }) : wpAny (model prog w) A (delItem (.ref d) key) Q E s := by
  have z := N _ hm
  have hD : s.heap.DictOf knd d kvs := Heap.dictOf_iff.mpr ⟨o, z.1, hd⟩
  unfold delItem
  try with_reducible refine wpAny_holding ?_
  refine wpAny_bind (wpAny_sequenceKey hD.typeIs (by decide) ?_)
  refine wpAny_bind (wpAny_callSpecial?_slot (name := Str.ofString "__delitem__") hD.typeIs PySem.F.slot_dict_delitem
    (call_meetsIn PySem.F.slot_dict_delitem hD.typeIs PySem.F.entry_dict_delitem (PySem.F.args_dict_delitem_2 _ _) (meets_dict_delitem_pairs knd d hkey) ⟨kvs, hD, (by have : sizeLine = 2 ^ 24 := rfl; omega), hin, fun h' hmm hs => ?_⟩))
  obtain ⟨o', ho', hd'⟩ := Heap.dictOf_iff.mp hmm
  exact wpAny_pure (h h' o' _ (F.change hs z.2.1 z.2.2) (news_put N hm hs ho') (put_turned hm) hd')
end
end Mine
end -- K3
section -- B3
open PySem PySem.W PyProof.Rows PySem.Calls PySem.Spec
namespace Mine
/-- a turn's end, the loop's target any -/
noncomputable def TurnT (h₀ : Heap) (L : Addr) (s : Shared) (I : Addr) (io : Obj) (Jn : (Str → Option Value) → List (Addr × Obj) → Prop) (f : Flow) (s₂ : Shared) : Prop :=
  f = .next ∧ ∃ h' tk m' news', s₂ = { s with heap := h', toks := tk } ∧ Fr h₀ L h' m' ∧ News h₀ L h' ((I, io) :: news') ∧ (∀ p ∈ news', p.1 ≠ I) ∧ Jn m' news'
section
variable {prog : Program} {w : World} {A : Around} {E : Value → Shared → Prop} {s : Shared} {env : Env} {h₀ : Heap} {target : PySem.Expr} {body : List Stmt} {Q : Flow → Shared → Prop}
theorem list_loopT {l : Addr} {vs : List Value} {c : Nat} {m₀ : Str → Option Value} {news : List (Addr × Obj)} (J : Nat → (Str → Option Value) → List (Addr × Obj) → Prop)
    (hh : A.handled = none) (hl : (l, W.listOf (List.toArray vs) c) ∈ news) (F : Fr h₀ env.locals s.heap m₀) (N : News h₀ env.locals s.heap news) (hJl : ∀ i m nw, J i m nw → (l, W.listOf (List.toArray vs) c) ∈ nw) (hj : J 0 m₀ news)
    (turn : ∀ i v m₁ news₁ (s₁ : Shared) I io, vs[i]? = some v → J i m₁ news₁ → (∀ p ∈ news₁, p.1 ≠ I) → Fr h₀ env.locals s₁.heap m₁ → News h₀ env.locals s₁.heap ((I, io) :: news₁) →
      wpAny (model prog w) A (assign target env v) (fun _ s₃ => wpAny (model prog w) A (execs body env) (TurnT h₀ env.locals s₁ I io (J (i + 1))) E s₃) E s₁)
    (done : ∀ m₁ news₁ h tk, J vs.length m₁ news₁ → Fr h₀ env.locals h m₁ → News h₀ env.locals h news₁ → Q .next { s with heap := h, toks := tk }) :
    wpAny (model prog w) A (pyIter (.ref l)) (fun it s₂ => LoopAtT prog w A h₀ env target body Q E it s₂) E s := by
  have hls : s.heap.IsList l vs.toArray := ⟨_, (N _ hl).1, rfl, _, rfl⟩
  have hlt : l < s.heap.objs.size := Heap.lt_size (N _ hl).1
  refine wpAny_pyIter_list hls ?_
  have Wk := Walks.list (prog := prog) (w := w) hh s.heap.objs.size l (Nat.ne_of_lt hlt) vs.toArray
  rw [List.size_toArray] at Wk
  have hIL : s.heap.objs.size ≠ env.locals := Nat.ne_of_gt F.ns.lt
  refine ⟨s.heap.objs.size, _, _, vs.length, _, _, m₀, news, J, rfl, Wk, ?_, ?_, ?_, ⟨⟨_, Heap.get?_push_size _ rfl, rfl, rfl⟩, hls.at fun o e => Heap.get?_push_of_some _ e⟩, F.push _, fun p hp => ⟨Heap.get?_push_of_some _ (N p hp).1, (N p hp).2⟩,
    (fun i s' v Q' st hQ' => letGo_listiter st.1 hQ'), hj, ?_, fun h' tk' m' news' F' N' _ hJ => done m' news' h' tk' hJ F' N'⟩
  · intro hm
    rcases List.mem_cons.mp hm with e | hm
    · exact hIL e.symm
    · exact (N _ hl).2.1 (List.mem_singleton.mp hm).symm
  · intro b hb
    rw [List.mem_singleton.mp hb]
    exact next_is_new F
  · intro p hp hI
    exact absurd (Heap.lt_size (N p hp).1) ((List.mem_singleton.mp hI) ▸ Nat.lt_irrefl _)
  · intro i v m₁ news₁ s₁ own hi hP hJ hnw hown hget hall hst₁ F₁ N₁
    obtain ⟨⟨io, hio, _⟩, _⟩ := id hst₁
    have hI0 : h₀.get? s.heap.objs.size = none := next_is_new F
    have hmem : (s.heap.objs.size, io) ∈ own := hall _ (.head _) hI0 io hio
    have hll := hJl i m₁ news₁ hJ
    have hsub : ∀ q ∈ own, q = (s.heap.objs.size, io) ∨ q = (l, W.listOf (List.toArray vs) c) := fun q hq => by
      rcases List.mem_cons.mp (hown q hq) with e | e
      · left
        have h3 := hget q hq
        rw [e, hio] at h3
        cases q; cases e; cases h3; rfl
      · right
        have e := List.mem_singleton.mp e
        have h3 := hget q hq
        have h4 := (N₁ _ (List.mem_append_right _ hll)).1
        rw [e, h4] at h3
        cases q; cases e; cases h3; rfl
    refine wpAny_mono (turn i v m₁ news₁ s₁ s.heap.objs.size io (by simpa using hP) hJ (fun p hp e => hnw p hp (List.mem_singleton.mpr e)) F₁ fun q hq => ?_) (fun _ s₂ h₂ => wpAny_mono h₂ (fun f s₃ e => ?_) fun _ _ e => e) fun _ _ e => e
    · rcases List.mem_cons.mp hq with rfl | hq
      · exact N₁ _ (List.mem_append_left _ hmem)
      · exact N₁ q (List.mem_append_right _ hq)
    · obtain ⟨rfl, h', tk, m', news', rfl, F', N', hn, hm⟩ := e
      refine ⟨rfl, h', tk, m', news', rfl, F', fun p hp => ?_, fun p hp hm => hn p hp (List.mem_singleton.mp hm), hm⟩
      rcases List.mem_append.mp hp with q | q
      · rcases hsub p q with rfl | rfl
        · exact N' _ (.head _)
        · exact N' _ (.tail _ (hJl _ _ _ hm))
      · exact N' p (.tail _ q)
end
end Mine
end -- B3
section -- C2
open PySem PySem.W PyProof.Rows PySem.Calls PySem.Spec
namespace Mine
/-- what a turn of the comprehension has made -/
noncomputable def MadeAll (Good : Nat → Obj → Prop) (no : List Addr) (h : Heap) (ys : List Value) : Prop := ∀ (j : Nat) (y : Value), ys[j]? = some y → ∃ P o, y = Value.ref P ∧ h.get? P = some o ∧ Good j o ∧ P ∉ no
section
variable {prog : Program} {w : World} {A : Around} {E : Value → Shared → Prop} {env : Env} {s : Shared}
theorem comp_M {elt iter : PySem.Expr} {a b : Str} {pa pb tp : Pos} {kk : Nat} {scope : Scope} {cl : List (Str × Addr)} {pos : Pos} {Q : Value → Shared → Prop} {l : Addr} {vs : List Value} {Good : Nat → Obj → Prop}
    (hclos : closureFor scope env = pure cl) (hcell : ∀ y ∈ scope.names, y.2 ≠ .cell) (hkind : scope.kind = .function)
    (hnames : ∀ y ∈ scope.names, y.2 = .local → scope.names.lookup y.1 = some .local) (ha : scope.names.lookup a = some .local) (hb : scope.names.lookup b = some .local) (hab : a ≠ b) (hh : A.handled = none)
    (hl : s.heap.IsList l vs.toArray) (hsz : vs.length ≤ 1000000) (hiter : ∀ Q' : Value → Shared → Prop, Q' (.ref l) s → wpAny (model prog w) A (eval iter env) Q' E s)
    (hel : ∀ (i : Nat) (v : Value), vs[i]? = some v → ∃ T x y, v = Value.ref T ∧ s.heap.IsTuple T #[x, y] ∧ ∀ (C : Addr) (s₃ : Shared) (m₃ : Str → Option Value) (E' : Value → Shared → Prop), s.heap.objs.size ≤ C → s₃.heap.Ns C m₃ → m₃ a = some x → m₃ b = some y → s.heap.StaysIn s₃.heap →
      wpAny (model prog w) A (eval elt (compEnvC scope cl C env)) (fun r s₄ => ∃ h' tk P o, r = Value.ref P ∧ s₄ = { s₃ with heap := h', toks := tk } ∧ s₃.heap.StaysIn h' ∧ s₃.heap.get? P = none ∧ h'.get? P = some o ∧ Good i o) E' s₃)
    (hQ : ∀ D h' tk ys c, s.heap.get? D = none → s.heap.StaysIn h' → h'.get? D = some (W.listOf (List.toArray ys) c) → ys.length = vs.length → MadeAll Good [D] h' ys → (∀ (j : Nat) (P : Addr), ys[j]? = some (Value.ref P) → s.heap.get? P = none) → Q (.ref D) { s with heap := h', toks := tk })
    (hs : ∀ x, foldedSetIterable iter env x = pure x := by intro _; rfl) :
    wpAny (model prog w) A (eval (.ListComp elt [⟨.Tuple [.Name a pa, .Name b pb] kk tp, iter, [], 0⟩] scope pos) env) Q E s := by
  rw [eval_ListComp]
  refine wpAny_comprehension_free (use := none) rfl hs hclos hkind hnames (hiter _ ?_)
  have hll : l < s.heap.objs.size := let ⟨_, ho, _⟩ := hl; Heap.lt_size ho
  refine wpAny_pyIter_list hl ?_
  generalize hI : s.heap.objs.size = I
  have hfrI : s.heap.get? I = none := Heap.get?_none_of_le (Nat.le_of_eq hI)
  generalize hH1 : s.heap.push { cls := .type "list_iterator", data := .fields #[.ref l, .int 0 0] } = H1
  have hI1 : H1.IsListIter I l 0 := ⟨_, by rw [← hH1, ← hI]; exact Heap.get?_push_size _ rfl, rfl, rfl⟩
  have st1 : s.heap.StaysIn H1 := fun b o e => by rw [← hH1]; exact Heap.get?_push_of_some _ e
  have hs1 : H1.objs.size = s.heap.objs.size + 1 := by rw [← hH1, Heap.size_push]
  refine wpAny_newObj_type (wpAny_newFunctionEnv hcell (by intro y hy; simp at hy) (fun h₁ hns₁ hsb₁ => ?_) hkind)
  dsimp only at hns₁ hsb₁ ⊢
  generalize hD : H1.objs.size = D at hns₁ hsb₁ ⊢
  generalize hH2 : H1.push { cls := .type "list", dict := none, data := .seq ([] : List Value).toArray } = H2 at hns₁ hsb₁ ⊢
  have hs2 : H2.objs.size = D + 1 := by rw [← hH2, Heap.size_push, hD]
  generalize hC : H2.objs.size = C at hns₁ hsb₁ ⊢
  have eC : C = D + 1 := hC.symm.trans hs2
  have eD : D = I + 1 := by rw [← hD, hs1, hI]
  have hID : I < D := by rw [eD]; exact Nat.lt_succ_self _
  have hDC : D < C := by rw [eC]; exact Nat.lt_succ_self _
  have hIC := Nat.lt_trans hID hDC
  have hlI : l < I := by rw [← hI]; exact hll
  have low : ∀ b o, s.heap.get? b = some o → b < I := fun b o e => by rw [← hI]; exact Heap.lt_size e
  have up : ∀ b o, H1.get? b = some o → h₁.get? b = some o := fun b o e => hsb₁.extBut b o (by
    have := Heap.lt_size e
    rw [hD] at this
    exact Nat.ne_of_lt (Nat.lt_trans this hDC)) (Heap.get?_push_of_some _ (hH2 ▸ Heap.get?_push_of_some _ e))
  have hD1 : h₁.get? D = some (W.listOf (List.toArray []) 0) := hsb₁.extBut _ _ (Nat.ne_of_lt hDC) (Heap.get?_push_of_some _ (hH2 ▸ hD ▸ Heap.get?_push_size _ rfl))
  have hfr : ∀ a, I ≤ a → s.heap.get? a = none := fun a h => Heap.get?_none_of_le (by rw [hI]; exact h)
  have loop : ∀ (R : Result → Shared → Prop), (∀ h' tk m' ys c, h'.Ns C m' → s.heap.StaysIn h' → h'.get? D = some (W.listOf (List.toArray ys) c) → ys.length = vs.length → MadeAll Good [I, D, C] h' ys → (∀ (j : Nat) (P : Addr), ys[j]? = some (Value.ref P) → s.heap.get? P = none) → R (.ok .next) { s with heap := h', toks := tk }) →
      codeAny (model prog w) A (.compLoop (.ListComp elt [⟨.Tuple [.Name a pa, .Name b pb] kk tp, iter, [], 0⟩] scope pos) 0 (.ref I) (.ref D) (compEnvC scope cl C env)) R { s with heap := h₁, toks := s.toks + ([] : List (Str × Value)).length } := by
    intro R hR
    refine kcp_loop (fun n s' => ∃ i h' tk m' ys c, s' = { s with heap := h', toks := tk } ∧ n = vs.length - i ∧ i ≤ vs.length ∧ h'.IsListIter I l i ∧ h'.Ns C m' ∧ s.heap.StaysIn h' ∧ h'.get? D = some (W.listOf (List.toArray ys) c) ∧ ys.length = i ∧ MadeAll Good [I, D, C] h' ys ∧ (∀ (j : Nat) (P : Addr), ys[j]? = some (Value.ref P) → s.heap.get? P = none)) ?_ vs.length
      ⟨0, h₁, _, _, [], 0, rfl, rfl, Nat.zero_le _, let ⟨o, ho, r⟩ := hI1; ⟨o, up _ _ ho, r⟩, hns₁, fun b o e => up b o (st1 b o e), hD1, rfl, fun j y hj => by simp at hj, fun j P hj => by simp at hj⟩
    rintro n s' ⟨i, h', tk, m', ys, c, rfl, rfl, hi, hit, hns, st, hDl, hyl, hM, hfP⟩
    have hl' : h'.IsList l vs.toArray := hl.at fun o e => st _ _ e
    by_cases hlt : i < vs.length
    · obtain ⟨T, x, y, e1, e2, e3⟩ := hel i vs[i] (List.getElem?_eq_getElem hlt)
      refine wpAny_pyNext_list_item (s := { s with heap := h', toks := tk }) hit hl' (x := vs[i]) (by simp [hlt]) fun h₂ hit₂ hs₂ => ?_
      dsimp only
      refine letGo_listiter hit₂ ?_
      rw [e1]
      have st₂ : s.heap.StaysIn h₂ := fun b o e => hs₂.extBut b o (Nat.ne_of_lt (low b o e)) (st b o e)
      have hT₂ : h₂.IsTuple T #[x, y] := let ⟨o, ho, r⟩ := e2; ⟨o, st₂ _ _ ho, r⟩
      refine kcp_assign (s := { s with heap := h₂, toks := tk }) (env := compEnvC scope cl C env) (m := m') hh hT₂ (lookup_relabel_local ha) (lookup_relabel_local hb) (by simp [compEnvC, relabel, hkind]) (hns.at' fun o e => hs₂.extBut _ o (Nat.ne_of_gt hIC) e) fun h₃ tk₃ hns₃ hk₃ => ?_
      have hk₃' : ∀ c o, c ≠ C → h₂.get? c = some o → h₃.get? c = some o := hk₃
      have st₃ : s.heap.StaysIn h₃ := fun b o e => hk₃' b o (Nat.ne_of_lt (Nat.lt_trans (low b o e) hIC)) (st₂ b o e)
      refine wpAny_mono (e3 C { s with heap := h₃, toks := tk₃ } _ _ (by rw [hI]; exact Nat.le_of_lt hIC) hns₃ (by rw [if_neg hab, if_pos rfl]) (if_pos rfl) st₃) (fun r s₄ hr => ?_) fun _ _ e => e
      obtain ⟨h₄, tk₄, P, o, rfl, rfl, st₄, hP3, hP4, hG⟩ := hr
      have hD3 : h₃.get? D = some (W.listOf (List.toArray ys) c) := hk₃' _ _ (Nat.ne_of_lt hDC) (hs₂.extBut _ _ (Nat.ne_of_gt hID) hDl)
      have hD4 := st₄ _ _ hD3
      obtain ⟨oI, hoI, hrI⟩ := id hit₂
      have hI3 := hk₃' _ _ (Nat.ne_of_lt hIC) hoI
      obtain ⟨oC, esC, epC, hoC, hrC⟩ := id hns₃
      refine append_at (s := { s with heap := h₄, toks := tk₄ }) hD4 (fun h₅ hs₅ ho₅ => ?_) (by rw [List.size_toArray]; have : sizeLine = 2 ^ 24 := rfl; omega)
      rw [List.push_toArray] at ho₅
      have hPI : P ≠ I := fun e => by rw [e] at hP3; rw [show h₃.get? I = some oI from hI3] at hP3; cases hP3
      have hPD : P ≠ D := fun e => by rw [e] at hP3; rw [show h₃.get? D = _ from hD3] at hP3; cases hP3
      have hPC : P ≠ C := fun e => by rw [e] at hP3; rw [show h₃.get? C = some oC from hoC] at hP3; cases hP3
      have hs0 : s.heap.get? P = none := by
        cases q : s.heap.get? P with
        | none => rfl
        | some o' => have := st₃ _ _ q; rw [hP3] at this; cases this
      refine ⟨vs.length - (i + 1), by omega, i + 1, h₅, _, _, ys ++ [Value.ref P], c + 1, rfl, rfl, hlt, ⟨oI, hs₅.extBut _ _ (Nat.ne_of_lt hID) (st₄ _ _ hI3), hrI⟩, ⟨oC, esC, epC, hs₅.extBut _ _ (Nat.ne_of_gt hDC) (st₄ _ _ hoC), hrC⟩, fun b o e => hs₅.extBut b o (Nat.ne_of_lt (Nat.lt_trans (low b o e) hID)) (st₄ b o (st₃ b o e)), ho₅, by simp [hyl], ?_, ?_⟩
      · intro j z hj
        rcases Nat.lt_trichotomy j ys.length with q | q | q
        · rw [List.getElem?_append_left q] at hj
          obtain ⟨P', o', g1, g2, g3, g4⟩ := hM j z hj
          simp only [List.mem_cons, List.not_mem_nil, or_false, not_or] at g4
          exact ⟨P', o', g1, hs₅.extBut _ _ g4.2.1 (st₄ _ _ (hk₃' _ _ g4.2.2 (hs₂.extBut _ _ g4.1 g2))), g3, by simp [g4]⟩
        · subst q
          have : z = Value.ref P := by simpa using hj.symm
          subst this
          refine ⟨P, o, rfl, hs₅.extBut _ _ hPD hP4, by rw [hyl]; exact hG, by simp [hPI, hPD, hPC]⟩
        · rw [List.getElem?_eq_none (by simp; omega)] at hj; cases hj
      · intro j P' hj
        rcases Nat.lt_trichotomy j ys.length with q | q | q
        · rw [List.getElem?_append_left q] at hj; exact hfP j P' hj
        · subst q
          have : P' = P := by simpa using hj.symm
          subst this
          exact hs0
        · rw [List.getElem?_eq_none (by simp; omega)] at hj; cases hj
    · have hin : i = vs.length := by omega
      refine wpAny_pyNext_list_end (s := { s with heap := h', toks := tk }) hh hit hl' (by simp [hin]) fun h₂ he₂ => ?_
      dsimp only
      refine hR h₂ tk m' ys c (hns.at' fun o e => he₂ _ o (Nat.ne_of_gt hIC) e) (fun b o e => he₂ b o (Nat.ne_of_lt (low b o e)) (st b o e)) (he₂ _ _ (Nat.ne_of_gt hID) hDl) (by omega) ?_ hfP
      intro j z hj
      obtain ⟨P', o', g1, g2, g3, g4⟩ := hM j z hj
      simp only [List.mem_cons, List.not_mem_nil, or_false, not_or] at g4
      exact ⟨P', o', g1, he₂ _ _ g4.1 g2, g3, by simp [g4]⟩
  have fin : ∀ h' tk m' ys c, h'.Ns C m' → s.heap.StaysIn h' → h'.get? D = some (W.listOf (List.toArray ys) c) → ys.length = vs.length → MadeAll Good [I, D, C] h' ys → (∀ (j : Nat) (P : Addr), ys[j]? = some (Value.ref P) → s.heap.get? P = none) →
      compPost (model prog w) A E none Q (.ref D) C (.ok .next) { s with heap := h', toks := tk } := fun h' tk m' ys c hn st hDl hyl hM hfP =>
    ⟨m', hn, fun h'' hs'' => hQ D h'' tk ys c (hfr D (Nat.le_of_lt hID)) (fun b o e => hs''.extBut b o (Nat.ne_of_lt (Nat.lt_trans (low b o e) hIC)) (st b o e)) (hs''.extBut _ _ (Nat.ne_of_lt hDC) hDl) hyl (fun j z hj => by
      obtain ⟨P', o', g1, g2, g3, g4⟩ := hM j z hj
      simp only [List.mem_cons, List.not_mem_nil, or_false, not_or] at g4
      exact ⟨P', o', g1, hs''.extBut _ _ g4.2.2 g2, g3, by simp [g4]⟩) hfP⟩
  refine codeAny_compStart_list (loop _ fin) (wpAny_pyIter_listiter (l := l) (i := 0) ?_ (loop _ fin))
  exact let ⟨o, ho, r⟩ := hI1; ⟨o, up _ _ ho, r⟩
end
end Mine
end -- C2
section -- K4
open PySem PySem.W PyProof.Rows PySem.Calls PySem.Spec
set_option maxHeartbeats 1000000
namespace Mine
theorem rc_lt {prog : Program} {w : World} {A : Around} {E : Value → Shared → Prop} {s : Shared} {a b : Int} {t u : Tok} {Q : Value → Shared → Prop} (h : Q (.bool (decide (a < b))) s) : wpAny (model prog w) A (richCompare .Lt (.int a t) (.int b u)) Q E s := PyProof.Rows.lt_int h
theorem tuple_ltAt (l b : Addr) (i j : Int) (t u : Tok) (x y : Value) (n n2 : Nat) (hij : i ≠ j) :
    Meets (Builtin.«tuple.__lt__» ⟨[.ref l, .ref b], []⟩)
      (fun _ R s => s.heap.get? l = some (⟨.type "tuple", none, .seq #[.int i t, x] n, #[]⟩ : Obj) ∧ s.heap.get? b = some (⟨.type "tuple", none, .seq #[.int j u, y] n2, #[]⟩ : Obj) ∧ R (.ok (.ret (.bool (decide (i < j))))) s) :=
  .of_wp fun prog w A R s h => by
    obtain ⟨hp, g, d, tk, os⟩ := s; obtain ⟨hl, hb, h⟩ := h
    have f2 := AutoSeq1.sub_tuple_tuple
    wp_walk using wpAny_loadPart' hl, wpAny_loadPart' hb, wpAny_eqBool_int, rc_lt
    exact ⟨_, rfl, h⟩
section
variable {prog : Program} {w : World} {A : Around} {E : Value → Shared → Prop} {s : Shared} {R : Result → Shared → Prop}
/-- an int and something -/
noncomputable def IsPair (h : Heap) (v : Value) (i : Int) : Prop := ∃ P x t u, v = Value.ref P ∧ h.get? P = some (⟨.type "tuple", none, .seq #[.int i t, x] u, #[]⟩ : Obj)
theorem IsPair.keeps {h h' : Heap} {v : Value} {i : Int} (x : IsPair h v i) (st : ∀ P o, v = Value.ref P → h.get? P = some o → h'.get? P = some o) : IsPair h' v i :=
  let ⟨P, y, t, u, e, g⟩ := x; ⟨P, y, t, u, e, st P _ e g⟩
theorem pair_lt {a b : Value} {i j : Int} {Q : Value → Shared → Prop} (ha : IsPair s.heap a i) (hb : IsPair s.heap b j) (hij : i ≠ j) (hu : A.units < cLine) (h : Q (.bool (decide (i < j))) s) : wpAny (model prog w) A (richCompare .Lt a b) Q E s := by
  obtain ⟨P, x, t, u, rfl, e1⟩ := ha
  obtain ⟨P', x', t', u', rfl, e2⟩ := hb
  exact richCompare_meets_room (op := .Lt) ⟨_, e1, rfl⟩ ⟨_, e2, rfl⟩ F.slot_tuple_lt F.entry_tuple_lt (F.args_tuple_lt_2 _ _) (tuple_ltAt P P' i j t t' x x' u u' hij) ⟨e1, e2, show Value.bool _ ≠ Value.notImplemented ∧ Q _ s from ⟨(fun x => nomatch x), h⟩⟩ hu
theorem min_loop {l I S : Addr} {vs : List Value} {c₀ : Nat} {off : Nat → Int} {H : Heap} (hh : A.handled = none) (hu : A.in1.units < cLine) (hIS : I ≠ S) (hH : ∀ b o, H.get? b = some o → b ≠ I ∧ b ≠ S) (hl : H.get? l = some (W.listOf (List.toArray vs) c₀))
    (hp : ∀ (i : Nat) (v : Value), vs[i]? = some v → IsPair H v (off i)) (hd : ∀ i j, i < vs.length → j < vs.length → i ≠ j → off i ≠ off j)
    (hR : ∀ (k : Nat) (h' : Heap) (tk : Nat) (v : Value), vs[k]? = some v → (∀ j, j < vs.length → j ≠ k → off k < off j) → H.StaysIn h' → R (.ok (.ret v)) { s with heap := h', toks := tk }) :
    ∀ (n j k : Nat) (h : Heap) (tk : Nat) (vb : Value) (c : Nat), vs.length - j = n → j ≤ vs.length → k < j → vs[k]? = some vb → (∀ i, i < j → i ≠ k → off k < off i) → h.IsListIter I l j → H.StaysIn h →
      h.get? S = some { cls := .type "list", dict := none, data := .seq #[vb, vb] c, slots := #[] } → codeAny (model prog w) A (.builtin "min.loop" ⟨[.ref I, .none, .ref S], []⟩) R { s with heap := h, toks := tk } := by
  have hname : (toString "min" ++ toString ".loop" : String) = "min.loop" := by decide
  intro n
  induction n with
  | zero =>
    intro j k h tk vb c hn hj hk hb hmin hit st hS
    have hin : j = vs.length := by omega
    refine codeAny_builtin F.entry_min_loop ?_
    rw [Around.under_plainId F.plain_min_loop _]
    show wpAny _ A.in1 (seqItems? (.ref S) >>= _) _ _ _
    refine wpAny_bind (wpAny_seqItems hS rfl ?_)
    show wpAny _ A.in1 (tryCatch (pyNext (.ref I)) _ >>= _) _ _ _
    refine wpAny_bind (wpAny_tryCatch (wpAny_pyNext_list_end (s := { s with heap := h, toks := tk }) (A := A.in1) (items := vs.toArray) hh hit ⟨_, st _ _ hl, rfl, _, rfl⟩ (by simp [hin]) fun h' he => ?_))
    have hS' := he S _ (Ne.symm hIS) hS
    show wpAny _ A.in1 (updateSeq S (fun _ => #[]) >>= _) _ _ _
    refine wpAny_bind ?_
    refine wpAny_updateSeq hS' rfl (wpAny_bind (wpAny_letGo (wpAny_pure ?_)))
    exact hR k _ _ vb hb (fun i hi => hmin i (by omega)) fun b o e => (Heap.get?_update_other _ _ (Ne.symm (hH b o e).2)).trans (he b o (hH b o e).1 (st b o e))
  | succ n ih =>
    intro j k h tk vb c hn hj hk hb hmin hit st hS
    have hlt : j < vs.length := by omega
    refine codeAny_builtin F.entry_min_loop ?_
    rw [Around.under_plainId F.plain_min_loop _]
    show wpAny _ A.in1 (seqItems? (.ref S) >>= _) _ _ _
    refine wpAny_bind (wpAny_seqItems hS rfl ?_)
    show wpAny _ A.in1 (tryCatch (pyNext (.ref I)) _ >>= _) _ _ _
    refine wpAny_bind (wpAny_tryCatch (wpAny_pyNext_list_item (s := { s with heap := h, toks := tk }) (items := vs.toArray) hit ⟨_, st _ _ hl, rfl, _, rfl⟩ (x := vs[j]) (by simp [hlt]) fun h' hit' hs' => ?_))
    have hS' := hs'.extBut S _ (Ne.symm hIS) hS
    have st' : H.StaysIn h' := fun b o e => hs'.extBut b o (hH b o e).1 (st b o e)
    have p1 := (hp j vs[j] (List.getElem?_eq_getElem hlt)).keeps (h' := h') fun P o _ e => st' P o e
    have p2 := (hp k vb hb).keeps (h' := h') fun P o _ e => st' P o e
    have hjk : off j ≠ off k := hd j k hlt (by omega) (by omega)
    show wpAny _ A.in1 (tryCatch (holding [vs[j], vs[j]] (richCompare .Lt vs[j] vb >>= _)) _ >>= _) _ _ _
    refine wpAny_bind (wpAny_tryCatch (wpAny_holding (wpAny_bind (pair_lt (s := { s with heap := h', toks := tk }) p1 p2 hjk hu ?_))))
    refine wpAny_bind (wpAny_holding (wpAny_truthy_bool ?_))
    refine wpAny_bind (wpAny_letGo (wpAny_pure ?_))
    by_cases hb' : off j < off k
    · rw [decide_eq_true hb']
      simp only [if_true]
      refine wpAny_bind ?_
      refine wpAny_updateSeq hS' rfl (wpAny_bind (wpAny_letGo ?_))
      rw [hname]
      refine wpAny_pure ⟨plainId_quiet F.plain_min_loop _, ih (j + 1) j _ _ vs[j] _ (by omega) hlt (by omega) (List.getElem?_eq_getElem hlt) (fun i hi hne => ?_) ?_ (fun b o e => (Heap.get?_update_other _ _ (Ne.symm (hH b o e).2)).trans (st' b o e)) (Heap.get?_update_self _ hS' rfl)⟩
      · by_cases e : i = k
        · rw [e]; exact hb'
        · exact Int.lt_trans hb' (hmin i (by omega) e)
      · obtain ⟨o, ho, r⟩ := hit'
        exact ⟨o, (Heap.get?_update_other _ _ (Ne.symm hIS)).trans ho, r⟩
    · rw [decide_eq_false hb']
      simp only [Bool.false_eq_true, if_false]
      refine wpAny_bind (wpAny_letGo ?_)
      rw [hname]
      refine wpAny_pure ⟨plainId_quiet F.plain_min_loop _, ih (j + 1) k _ _ vb c (by omega) hlt (by omega) hb (fun i hi hne => ?_) hit' st' hS'⟩
      by_cases e : i = j
      · rw [e]; omega
      · exact hmin i (by omega) hne
theorem min_pairs {l : Addr} {vs : List Value} {c₀ : Nat} {off : Nat → Int} {Q : Value → Shared → Prop} (hh : A.handled = none) (hu : A.units + 10 < cLine) (hl : s.heap.get? l = some (W.listOf (List.toArray vs) c₀))
    (hp : ∀ (i : Nat) (v : Value), vs[i]? = some v → IsPair s.heap v (off i)) (hd : ∀ i j, i < vs.length → j < vs.length → i ≠ j → off i ≠ off j) (hne : 0 < vs.length)
    (h : ∀ (k : Nat) (h' : Heap) (tk : Nat) (v : Value), vs[k]? = some v → (∀ j, j < vs.length → j ≠ k → off k < off j) → s.heap.StaysIn h' → Q v { s with heap := h', toks := tk }) :
    wpAny (model prog w) A (call (.builtin "min") [.ref l]) Q E s := by
  have hname : (toString "min" ++ toString ".loop" : String) = "min.loop" := by decide
  refine call_function_tree F.kind_min F.plain_min F.entry_min (F.args_min1 _) ?_
  show wpAny _ A.in1 (Builtin.Builtins.bindParams "min" ["key", "default"] 0 ⟨[], []⟩ >>= _) _ _ s
  refine wpAny_bind (wpAny_of_eq (show Builtin.Builtins.bindParams "min" ["key", "default"] 0 ⟨[], []⟩ = pure [none, none] from rfl) ?_)
  refine wpAny_bind (wpAny_pure ?_)
  have hl' : s.heap.IsList l vs.toArray := ⟨_, hl, rfl, _, rfl⟩
  refine wpAny_bind (wpAny_pyIter_list hl' ?_)
  refine wpAny_bind (wpAny_newObj_type ?_)
  rw [hname]
  generalize hI : s.heap.objs.size = I
  have hH1 : (s.heap.push { cls := .type "list_iterator", data := .fields #[.ref l, .int 0 0] }).objs.size = I + 1 := by rw [Heap.size_push, hI]
  rw [hH1]
  have low : ∀ b o, s.heap.get? b = some o → b < I := fun b o e => by rw [← hI]; exact Heap.lt_size e
  have hit0 : ((s.heap.push { cls := .type "list_iterator", data := .fields #[.ref l, .int 0 0] }).push { cls := .type "list", data := .seq ([] : List Value).toArray }).IsListIter I l 0 := ⟨_, Heap.get?_push_of_some _ (by rw [← hI]; exact Heap.get?_push_size _ rfl), rfl, rfl⟩
  have hS0 : ((s.heap.push { cls := .type "list_iterator", data := .fields #[.ref l, .int 0 0] }).push { cls := .type "list", data := .seq ([] : List Value).toArray }).get? (I + 1) = some { cls := .type "list", data := .seq ([] : List Value).toArray } := by rw [← hH1]; exact Heap.get?_push_size _ rfl
  have st0 : s.heap.StaysIn ((s.heap.push { cls := .type "list_iterator", data := .fields #[.ref l, .int 0 0] }).push { cls := .type "list", data := .seq ([] : List Value).toArray }) := fun b o e => Heap.get?_push_of_some _ (Heap.get?_push_of_some _ e)
  refine wpAny_pure ⟨plainId_quiet F.plain_min_loop _, ?_⟩
  generalize ((s.heap.push { cls := .type "list_iterator", data := .fields #[.ref l, .int 0 0] }).push { cls := .type "list", data := .seq ([] : List Value).toArray }) = h₀ at hit0 hS0 st0 ⊢
  have hIS : I ≠ I + 1 := Nat.ne_of_lt (Nat.lt_succ_self _)
  refine codeAny_builtin F.entry_min_loop ?_
  rw [Around.under_plainId F.plain_min_loop _]
  show wpAny _ A.in1 (seqItems? (.ref (I + 1)) >>= _) _ _ _
  refine wpAny_bind (wpAny_seqItems hS0 rfl ?_)
  show wpAny _ A.in1 (tryCatch (pyNext (.ref I)) _ >>= _) _ _ _
  refine wpAny_bind (wpAny_tryCatch (wpAny_pyNext_list_item (items := vs.toArray) hit0 ⟨_, st0 _ _ hl, rfl, _, rfl⟩ (x := vs[0]) (by simp [hne]) fun h' hit' hs' => ?_))
  have hS' := hs'.extBut (I + 1) _ (Ne.symm hIS) hS0
  show wpAny _ A.in1 (updateSeq (I + 1) (fun _ => #[vs[0], vs[0]]) >>= _) _ _ _
  refine wpAny_bind ?_
  refine wpAny_updateSeq hS' rfl ?_
  rw [hname]
  refine wpAny_pure ⟨plainId_quiet F.plain_min_loop _, min_loop (s := s) (H := s.heap) (vs := vs) (off := off) hh (by show A.units + 1 < cLine; omega) hIS (fun b o e => ⟨Nat.ne_of_lt (low b o e), Nat.ne_of_lt (Nat.lt_succ_of_lt (low b o e))⟩) hl hp hd h _ 1 0 _ _ vs[0] _ rfl hne (by omega) (List.getElem?_eq_getElem hne) (fun i hi hn => by omega) ?_ ?_ (Heap.get?_update_self _ hS' rfl)⟩
  · obtain ⟨o, ho, r⟩ := hit'
    exact ⟨o, (Heap.get?_update_other _ _ (Ne.symm hIS)).trans ho, r⟩
  · intro b o e
    exact (Heap.get?_update_other _ _ (Nat.ne_of_gt (Nat.lt_succ_of_lt (low b o e)))).trans (hs'.extBut b o (Nat.ne_of_lt (low b o e)) (st0 b o e))
end
end Mine
end -- K4
section -- C1
open PySem PySem.W PyProof.Rows PySem.Calls PySem.Spec
namespace Mine
section
variable {prog : Program} {w : World} {A : Around} {E : Value → Shared → Prop} {s' : Shared} {base h : Heap} {outer : List Env} {L a e : Addr} {m : Str → Option Value} {name : Str} {scope : Scope} {cd : Value}
  {n : Str} {b₀ : Stmt} {suite : List Stmt} {pos np : Pos} {rest : List ExceptHandler} {Q : Flow → Shared → Prop} {news : List (Addr × Obj)}
  {p : Program} {loose : List Str} {mean : ExcName → Option Value} {mg mb : Str → Option Value} {x : Str} {Er : Heap → Prop}
theorem caught_C (K : Below A base outer base) (F : Fr base L h m) (N : News base L h news) (U : Up [] Er (envOfC name scope L a cd :: outer) e x h s'.heap) (T : Top p loose mean mg mb base)
    (k : ∀ h' tk t xt oe ot ws nt, Fr base L h' (fun y => if y = n then some (.ref e) else m y) → News base L h' ((e, oe) :: (t, ot) :: news) → oe.cls = .type "KeyError" → oe.data = .fields ws → Sees t ws → ot.cls = .type "tuple" → ot.data = .seq #[Value.str x xt] nt →
      wpAny (model prog w) ((A.deeper (envOfC name scope L a cd)).mark (some (.ref e))) (execs (b₀ :: suite) (envOfC name scope L a cd))
        (fun f s₄ => wpAny (model prog w) (A.deeper (envOfC name scope L a cd)) (do bindName (envOfC name scope L a cd) n .none; unbindBehindTheSuite (envOfC name scope L a cd) n pos) (fun _ s₅ => Q f s₅) E s₄)
        (AsSuiteRaised (model prog w) ((A.deeper (envOfC name scope L a cd)).mark (some (.ref e))) (envOfC name scope L a cd) n pos (notedBy (model prog w) ((A.deeper (envOfC name scope L a cd)).mark (some (.ref e))) (envOfC name scope L a cd) (cameBackBy (model prog w) (A.deeper (envOfC name scope L a cd)) (envOfC name scope L a cd) E)))
        { s' with heap := h', toks := tk })
    (h2 : (Str.ofString "KeyError") ∉ loose) (h3 : (Str.ofString "KeyError") ∉ (recsOf p).map (·.name)) (h4 : (Str.ofString "KeyError") ∉ (litsOf p).map (·.1)) (h4c : (Str.ofString "KeyError") ∉ (clssOf p loose).map (·.name))
    (hk : scope.kind = .function := by rfl) (hlo : (envOfC name scope L a cd).kindOf n = some .local := by rfl) (hx : (envOfC name scope L a cd).kindOf (Str.ofString "KeyError") = some .globalImplicit := by rfl) :
    wpAny (model prog w) (A.deeper (envOfC name scope L a cd)) (noteFrame (.ref e) (envOfC name scope L a cd))
      (fun _ s₂ => wpAny (model prog w) (A.deeper (envOfC name scope L a cd)) (setFlight (.ref e) none) (fun _ s₃ =>
        wpAny (model prog w) (A.deeper (envOfC name scope L a cd)) (handleBy (.ref e) (envOfC name scope L a cd) (.ExceptHandler (some (.Name (Str.ofString "KeyError") np)) (some n) (b₀ :: suite) pos :: rest)) Q E s₃) E s₂) E s' := by
  obtain ⟨B, t, xt, hst, hEr, hfl, hnew, htup, hsm⟩ := U
  have K' := pushX (env := envOfC name scope L a cd) K F rfl hk
  have hnf : ∀ b ∈ frs (envOfC name scope L a cd :: outer), base.get? b = none := fun b hb => (K'.frames.mem hb).1
  have hB : base.StaysIn B := fun b o q => hst b o (hideAll_get _ (F.keep b o q) fun hm => by
    have := hnf b (by simpa using hm)
    rw [this] at q; cases q)
  have hl : ∀ q ∈ news, B.get? q.1 = some q.2 ∧ base.get? q.1 = none := fun q hq => by
    refine ⟨hst _ _ (hideAll_get _ (N q hq).1 fun hm => ?_), (N q hq).2.2⟩
    obtain ⟨env, he, hf⟩ := List.mem_filterMap.mp (by simpa using hm : q.1 ∈ frs (envOfC name scope L a cd :: outer))
    rcases List.mem_cons.mp he with rfl | he
    · exact (N q hq).2.1 (Option.some.inj hf).symm
    · obtain ⟨o, ho, _⟩ := (K.frames.mem (List.mem_filterMap.mpr ⟨env, he, hf⟩)).2
      rw [(N q hq).2.2] at ho; cases ho
  have hL : B.get? L = none := by
    obtain ⟨_, ⟨L', _, hf, hn', _⟩, _⟩ := hfl.2.2.1
    obtain rfl : L = L' := Option.some.inj hf
    exact hn'
  have hsm : h.UpToSlots s'.heap := hsm
  refine fly_next (Around.frames_deeper K.stack) rfl hfl fun h₄ hheld₄ hsm₄ => ?_
  refine fly_lands hheld₄ fun h₅ hheld hsm₅' => ?_
  have hsm₅ := hsm₄.trans hsm₅'
  have hheld' := Flies.lower hB hheld
  have F₅ := F.of_stays hheld'.1 (hsm.trans hsm₅)
  obtain ⟨ob, _, hob, hobc, _⟩ := hheld'.there
  have TR := T
  refine wpAny_handleBy_builtin_as (X := "KeyError") (T := "KeyError") (b := true) kr_isExc_KeyError kr_notTuple_KeyError (by rw [isSubtype_type]; kernel_rfl)
    (Calls.Name_function_global hk hx (Calls.loadGlobal_builtin (env := envOfC name scope L a cd) (T.g.keeps F₅.keep) (T.free _ (by decide +kernel) h2 h3 h4 h4c) (T.b.keeps F₅.keep) ((T.builtins _ (by decide +kernel)).trans PyProof.Rows.Boot.«KeyError») ⟨rfl, ⟨ob, hob, hobc⟩, ?_⟩) (by decide))
  refine fly_lands hheld fun h₆ hfl₆ hsm₆ => ?_
  have hfl₆' := Flies.lower hB hfl₆
  have F₆ := F.of_stays hfl₆'.1 ((hsm.trans hsm₅).trans hsm₆)
  obtain ⟨oe, ws, hoe, hoec, hoed, hoe0⟩ := hfl₆'.there
  obtain ⟨ot, nt, hot, hotc, hotd⟩ := (htup.of_slots hsm₅).of_slots hsm₆
  have N₆ := News.more F₆ (News.more F₆ News.nil hot (fun es n q => by rw [hotd] at q; cases q) (fresh_of_stays hB hnew)) hoe (fun es n q => by rw [hoed] at q; cases q) hfl₆'.2.1
  have Nl : News base L h₆ news := fun q hq => ⟨hfl₆.1 _ _ (hl q hq).1, (fun z => by have := (hl q hq).1; rw [z, hL] at this; cases this), (hl q hq).2⟩
  refine stLocN F₆ (news := (e, oe) :: (t, ot) :: news) (fun q hq => ?_) (fun h₇ F₇ N₇ => ?_) hk hlo
  · rcases List.mem_cons.mp hq with rfl | hq
    · exact N₆ _ (.head _)
    · rcases List.mem_cons.mp hq with rfl | hq
      · exact N₆ _ (.tail _ (.head _))
      · exact Nl q hq
  · exact k h₇ _ t xt oe ot ws nt F₇ N₇ hoec hoed hoe0 hotc (by simpa using hotd)
end
end Mine
end -- C1
section -- S2
open PySem PySem.W PyProof.Rows PySem.Calls PySem.Spec
namespace Mine
section
variable {prog : Program} {w : World} {A : Around} {E : Value → Shared → Prop} {s : Shared}
theorem entry_unchain : entryFor table "proto.unchain" = some Builtin.«proto.unchain» := entryFor_of_fast (by kernel_rfl)
theorem plain_unchain : plainId "proto.unchain" = true := by decide +kernel
theorem unchain_none {e e' : Addr} {oe : Obj} {vs : Array Value} {Q : Value → Shared → Prop} (he : s.heap.get? e = some oe) (hd : oe.data = .fields vs) (h2 : vs[2]? = some .none)
    (h : Q .none s) : wpAny (model prog w) A (runValue (.builtin "proto.unchain" ⟨[.ref e', .ref e, .ref e, .bool false], []⟩)) Q E s := by
  refine wpAny_runValue (codeAny_builtin entry_unchain ?_)
  show wpAny _ _ (field (.ref e) 2 >>= _) _ _ s
  refine wpAny_bind (wpAny_field he hd h2 ?_)
  rw [if_pos (by rfl)]
  exact wpAny_pure h
theorem raiseNewH {α : Type} {e n : Addr} {oe on : Obj} {vs ns : Array Value} {Q : α → Shared → Prop} (hh : A.handled = some (.ref e)) (he : s.heap.get? e = some oe) (hd : oe.data = .fields vs) (h2 : vs[2]? = some .none)
    (hn : s.heap.get? n = some on) (hnd : on.data = .fields ns) (hsz : 2 < ns.size) (hne : e ≠ n)
    (h : E (.ref n) { s with heap := s.heap.update n (Obj.mapFields (·.setIfInBounds 2 (.ref e))) }) : wpAny (model prog w) A (raiseNew (α := α) (.ref n)) Q E s := by
  unfold raiseNew
  refine wpAny_bind (wpAny_handled ?_)
  rw [hh]
  show wpAny _ _ (if (Value.ref e != Value.ref n) = true then _ else _) _ _ s
  rw [if_pos (by simp only [bne_iff_ne, ne_eq, Value.ref.injEq]; exact hne)]
  refine wpAny_bind (wpAny_holding (unchain_none he hd h2 ?_))
  unfold updateField
  refine wpAny_bind (wpAny_bind (wpAny_load hn ?_))
  rw [hnd]
  show wpAny _ _ (if 2 < ns.size then _ else _) _ _ s
  rw [if_pos hsz]
  exact wpAny_update hn (wpAny_throw h)
theorem next_tuple_endH {it t e : Addr} {i : Nat} {items} {oe : Obj} {vs : Array Value} {Q : Option Value → Shared → Prop} (hh : A.handled = some (.ref e)) (he : s.heap.get? e = some oe) (hd' : oe.data = .fields vs) (h2 : vs[2]? = some .none) (hne : e ≠ it)
    (hit : IsTupIter s.heap it t i) (ht : IsTup s.heap t items) (hx : items[i]? = none)
    (hQ : ∀ h', Heap.ExtBut it s.heap h' → Q none { s with heap := h' }) : wpAny (model prog w) A (pyNext (.ref it)) Q E s := by
  obtain ⟨o, ho, hc, hd⟩ := id hit
  obtain ⟨ol, hol, _, nl, hdl⟩ := ht
  unfold pyNext
  refine wpAny_bind (wpAny_attempt (wpAny_callSpecial?_slot (name := Str.ofString "__next__") hit.typeIs slot_tupleiter_next
    (wpAny_call_entry slot_tupleiter_next hit.typeIs entry_tupleiter_next ?_ (args_tupleiter_next _))))
  show wpAny _ _ (field (.ref it) 0 >>= _) _ _ s
  refine wpAny_bind (wpAny_field ho hd (x := .ref t) rfl ?_)
  show wpAny _ _ (if (Value.ref t == Value.none) = true then _ else _) _ _ s
  rw [if_neg (show ¬ ((Value.ref t == Value.none) = true) from Bool.false_ne_true)]
  show wpAny _ _ (field (.ref it) 1 >>= _) _ _ s
  refine wpAny_bind (wpAny_field ho hd (x := .int i 0) rfl ?_)
  show wpAny _ _ (seqItems? (.ref t) >>= _) _ _ s
  refine wpAny_bind (wpAny_seqItems hol hdl ?_)
  simp only [Int.toNat_natCast, hx]
  refine wpAny_bind (wpAny_rule (wpAny_bind (wpAny_setField ho hd (by simp) ?_)))
  show wpAny _ _ (newExc (.type "StopIteration") [] >>= _) _ _ _
  refine wpAny_bind ?_
  simp only [newExc, newTuple]
  refine wpAny_bind (wpAny_newObj_type ?_ (by size_fits))
  refine wpAny_bind (m := firstArgMember _ _) (wpAny_of_eq (a := Value.none) (by first | rfl | (simp only [firstArgMember]; rfl)) ?_)
  refine wpAny_newObj_type ?_ (by size_fits)
  have he₁ := (Heap.get?_update_other s.heap (Obj.mapFields (·.setIfInBounds 0 Value.none)) (Ne.symm hne)).trans he
  have hlt := Heap.lt_size he₁
  have hn₁ := Heap.get?_push_size ((s.heap.update it (Obj.mapFields fun x => x.setIfInBounds 0 Value.none)).push { cls := Value.type "tuple", data := Data.seq #[] }) (o := { cls := Value.type "StopIteration", data := Data.fields (#[Value.ref (s.heap.update it (Obj.mapFields fun x => x.setIfInBounds 0 Value.none)).objs.size, Value.none, Value.none, Value.none, Value.bool false, Value.none] ++ ownMembersOf (Value.type "StopIteration") []) }) rfl
  refine raiseNewH hh (Heap.get?_push_of_some _ (Heap.get?_push_of_some _ he₁)) hd' h2 hn₁ rfl (by simp; omega) (Nat.ne_of_lt (Nat.lt_trans hlt (by rw [Heap.size_push]; exact Nat.lt_succ_self _))) ?_
  refine wpAny_bind (wpAny_isInstance (T := "StopIteration") (b := true) ⟨_, Heap.get?_update_self _ hn₁ rfl, rfl⟩ isSubtype_stop ?_)
  refine wpAny_pure (hQ _ fun b o hb e => ?_)
  have q := Heap.get?_push_of_some { cls := Value.type "StopIteration", data := Data.fields (#[Value.ref (s.heap.update it (Obj.mapFields fun x => x.setIfInBounds 0 Value.none)).objs.size, Value.none, Value.none, Value.none, Value.bool false, Value.none] ++ ownMembersOf (Value.type "StopIteration") []) }
    (Heap.get?_push_of_some { cls := Value.type "tuple", data := Data.seq #[] } ((Heap.get?_update_other s.heap (Obj.mapFields (·.setIfInBounds 0 Value.none)) (Ne.symm hb)).trans e))
  have hb' := Heap.lt_size ((Heap.get?_update_other s.heap (Obj.mapFields (·.setIfInBounds 0 Value.none)) (Ne.symm hb)).trans e)
  exact (Heap.get?_update_other _ _ (Ne.symm (Nat.ne_of_lt (Nat.lt_trans hb' (by rw [Heap.size_push]; exact Nat.lt_succ_self _))))).trans q
theorem unpackItems_tupleH {t e : Addr} {items : Array Value} {oe : Obj} {vs : Array Value} {Q : List Value → Shared → Prop} (hh : A.handled = some (.ref e)) (he : s.heap.get? e = some oe) (hd' : oe.data = .fields vs) (h2 : vs[2]? = some .none) (ht : IsTup s.heap t items)
    (hQ : ∀ h', Heap.ExtBut s.heap.objs.size s.heap h' → Q items.toList { s with heap := h' }) : wpAny (model prog w) A (unpackItems (.ref t) items.size none) Q E s := by
  have hlt : t ≠ s.heap.objs.size := by obtain ⟨o, ho, _⟩ := ht; exact Nat.ne_of_lt (Heap.lt_size ho)
  unfold unpackItems
  refine wpAny_bind ?_
  · unfold notIterableAtAll
    refine wpAny_bind (wpAny_specialOf ht.typeIs slot_tuple_iter.lookup ?_)
    refine wpAny_pure ?_
    simp only [Bool.false_eq_true, if_false]
    refine wpAny_bind (wpAny_holding (iter_tuple ht ?_))
    refine wpAny_bind (wpAny_holding (draw_tuple hlt items.size 0 _ _ ⟨_, Heap.get?_push_size _ rfl, rfl, rfl⟩ (ht.push _) (by omega) fun h₁ hit₁ hs₁ => ?_))
    have hall : List.take items.size (List.drop 0 items.toList) = items.toList := by
      rw [List.drop_zero]; exact List.take_of_length_le (by simp)
    rw [hall]
    rw [if_neg (by simp)]
    have ht₁ : IsTup h₁ t items := (ht.push _).extBut hs₁.extBut hlt
    have hel := Nat.ne_of_lt (Heap.lt_size he)
    refine wpAny_bind (wpAny_holding (next_tuple_endH hh (hs₁.extBut e oe hel (Heap.get?_push_of_some _ he)) hd' h2 hel hit₁ ht₁ (by simp) fun h₂ he₂ => ?_))
    simp only [Option.isSome_none, Bool.false_eq_true, if_false]
    refine wpAny_pure (hQ h₂ fun b o hb e => he₂ b o hb (hs₁.extBut b o hb (Heap.get?_push_of_some _ e)))
theorem unpackItemsH_ {h₀ : Heap} {L : Addr} {m : Str → Option Value} {news : List (Addr × Obj)} {t e : Addr} {items : Array Value} {n : Nat} {oe : Obj} {vs : Array Value} {Q : List Value → Shared → Prop} (F : Fr h₀ L s.heap m) (N : News h₀ L s.heap news) (ht : IsTup s.heap t items)
    (hh : A.handled = some (.ref e)) (he : (e, oe) ∈ news) (hd' : oe.data = .fields vs) (h2 : vs[2]? = some .none) (hn : n = items.size) (h : ∀ h', Fr h₀ L h' m → News h₀ L h' news → Q items.toList { s with heap := h' }) : wpAny (model prog w) A (unpackItems (.ref t) n none) Q E s := by
  subst hn
  exact unpackItems_tupleH hh (N _ he).1 hd' h2 ht fun h' he => h h' (F.extBut he (Nat.le_refl _)) (N.extBut he (Nat.le_refl _))
end
end Mine
end -- S2
section -- D1
open PySem PySem.W PyProof.Rows PySem.Calls PySem.Spec
namespace Mine
/-! the parts of the text, by their places -/
noncomputable def stBody : Stmt → List Stmt
  | .FunctionDef _ _ b _ _ _ _ _ _ _ => b
  | _ => []
noncomputable def stArgs : Stmt → Arguments
  | .FunctionDef _ a _ _ _ _ _ _ _ _ => a
  | _ => ⟨[], [], none, [], [], none, []⟩
noncomputable def stScope : Stmt → Scope
  | .FunctionDef _ _ _ _ _ _ s _ _ _ => s
  | _ => default
noncomputable def nth (l : List Stmt) : Nat → Stmt
  | 0 => (match l with | a :: _ => a | [] => .Pass ⟨0, 0, 0, 0⟩)
  | n + 1 => (match l with | _ :: r => nth r n | [] => .Pass ⟨0, 0, 0, 0⟩)
noncomputable def favStmt : Stmt := nth PySem.Challenge.pw_dw0016_01.main.body 1
noncomputable def convStmt : Stmt := nth (stBody favStmt) 0
noncomputable def convQual : Str := "formatargvalues.<locals>.convert"
/-- the table of formatargvalues' codes has convert's -/
noncomputable def Hit (h : Heap) : Prop := ∃ c', h.get? 38 = some (tabObj #[rawInt 7, rawInt 4, .ref c']) ∧ h.CodeRec (.ref c') convQual
theorem Hit.hide {h base : Heap} {l : List Env} (x : Hit h) (ff : h.FunFrames base l) : Hit (hideAll h (frs l)) := by
  obtain ⟨c', a, c, o, vs, t, e, ho, hd, r⟩ := x
  have nf : ∀ {b o vs}, h.get? b = some o → o.data = .fields vs → b ∉ frs l := fun {b o vs} e hd m => by
    obtain ⟨_, o', ho', hn⟩ := ff.mem m
    rw [e] at ho'; cases ho'; exact hn _ hd
  exact ⟨c', hideAll_get _ a (nf a rfl), c, o, vs, t, e, hideAll_get _ ho (nf ho hd), hd, r⟩
theorem Hit.keeps {h h' : Heap} (x : Hit h) (k : h.StaysIn h') : Hit h' := let ⟨c', a, b⟩ := x; ⟨c', k _ _ a, b.keeps k⟩
noncomputable abbrev convObj (pm : Value) (t : Addr) (doc : Value) (c' : Addr) (ctv : Value) : Obj := kdv_obj (Str.ofString "convert") convQual (stArgs convStmt) (.stmts (stBody convStmt)) (stScope convStmt) [] (.ref t) doc pm c' ctv
/-- what the statement «def convert» leaves -/
noncomputable def ConvPost (s : Shared) (h₀ : Heap) (L : Addr) (bm : Str → Option Value) (dl : List Value) (pm : Value) (fl : Flow) (s' : Shared) : Prop :=
  fl = .next ∧ ∃ f' t' c' ctv doc own h' tk', s' = { s with heap := h', toks := tk' } ∧ Fr h₀ L h' (fun y => if y = Str.ofString "convert" then some (.ref f') else bm y) ∧
    News h₀ L h' ((f', convObj pm t' doc c' ctv) :: (t', kdv_tup dl) :: own) ∧
    (∀ h'', h₀.StaysIn h'' → (∀ q ∈ own, h''.get? q.1 = some q.2) → Hit h'' ∧ h''.CodeRec (.ref c') convQual)
theorem conv_miss {s : Shared} {h₀ : Heap} {L : Addr} {bm : Str → Option Value} {dl : List Value} {pm : Value} {f' t' c' : Addr} {ctv doc : Value} {h' : Heap} {tk' : Nat} {oc : Obj} {vs : Array Value} {t : Tok}
    (F : Fr h₀ L h' (fun y => if y = Str.ofString "convert" then some (.ref f') else bm y)) (N : News h₀ L h' [(f', convObj pm t' doc c' ctv), (c', oc), (t', kdv_tup dl), (38, tabObj #[rawInt 7, rawInt 4, .ref c'])])
    (d1 : oc.data = .fields vs) (d2 : vs[1]? = some (Value.str convQual t)) : ConvPost s h₀ L bm dl pm .next { s with heap := h', toks := tk' } := by
  refine ⟨rfl, f', t', c', ctv, doc, [(c', oc), (38, tabObj #[rawInt 7, rawInt 4, .ref c'])], h', tk', rfl, F, fun q hq => ?_, fun h'' st own => ?_⟩
  · simp only [List.mem_cons, List.not_mem_nil, or_false] at hq
    rcases hq with rfl | rfl | rfl | rfl
    · exact N _ (.head _)
    · exact N _ (.tail _ (.tail _ (.head _)))
    · exact N _ (.tail _ (.head _))
    · exact N _ (.tail _ (.tail _ (.tail _ (.head _))))
  · have e1 := own _ (.head _)
    have e2 := own _ (.tail _ (.head _))
    have cr : h''.CodeRec (.ref c') convQual := ⟨c', oc, vs, t, rfl, e1, d1, d2⟩
    exact ⟨⟨c', e2, cr⟩, cr⟩
theorem conv_hit {s : Shared} {h₀ : Heap} {L : Addr} {bm : Str → Option Value} {dl : List Value} {pm : Value} {f' t' c' : Addr} {ctv doc : Value} {h' : Heap} {tk' : Nat}
    (F : Fr h₀ L h' (fun y => if y = Str.ofString "convert" then some (.ref f') else bm y)) (N : News h₀ L h' [(f', convObj pm t' doc c' ctv), (t', kdv_tup dl)])
    (e2 : h₀.get? 38 = some (tabObj #[rawInt 7, rawInt 4, .ref c'])) (cr : h₀.CodeRec (.ref c') convQual) : ConvPost s h₀ L bm dl pm .next { s with heap := h', toks := tk' } := by
  refine ⟨rfl, f', t', c', ctv, doc, [], h', tk', rfl, F, N, fun h'' st own => ?_⟩
  exact ⟨⟨c', st _ _ e2, cr.keeps st⟩, cr.keeps st⟩
section
variable {M : Model} {A : Around} {E : Value → Shared → Prop} {s : Shared} {h₀ : Heap} {L a c P : Addr} {m mg mb : Str → Option Value} {cn : Str} {cs : Scope} {ccd : Value} {cl : List (Str × Addr)} {news : List (Addr × Obj)}
  {p : Program} {loose : List Str} {mean : ExcName → Option Value} {name qual : Str} {params : Arguments} {body : FuncBody} {scope : Scope} {ps : Array Value} {pos : Pos} {firstLine : Nat} {clos : List (Str × Addr)}
/-- a nested def whose code stands in the table, the table in h₀ -/
theorem hit0 {dV : Value} {Q : Value → Shared → Prop} {c' : Addr} (F : Fr h₀ L s.heap m) (N : News h₀ L s.heap news) (T : Top p loose mean mg mb h₀) (C : CodeHd h₀ c P) (hcd : ccd = .ref c) (hP : h₀.get? P = some (tabObj ps)) (ht : TriplesOk ps.toList) (hf : codeAmong pos ps.toList = some (.ref c'))
    (hcl : closureFor scope (envX cn cs L a ccd cl) = pure clos)
    (h : ∀ f ctv doc h' tk, Fr h₀ L h' m → News h₀ L h' ((f, kdv_obj name qual params body scope clos dV doc ((mg "__name__").getD .none) c' ctv) :: news) → (∀ q ∈ news, q.1 < f) → Q (.ref f) { s with heap := h', toks := tk }) :
    wpAny M A (makeTail name qual params body scope (envX cn cs L a ccd cl) dV .none none pos firstLine) Q E s := by
  have hm := F.keep _ _ hP
  have hgs := T.g.keeps F.keep
  obtain ⟨bm, ob, b1, b2, b3, b4, b5, b6⟩ := T.bmain
  have hbP : bm ≠ P := fun q => by
    have e := F.keep _ _ b3
    rw [q, hm] at e; cases e; cases b4
  have hbG : bm ≠ mainGlobals := fun q => by
    obtain ⟨o, es, ep, e, hd, _⟩ := T.g
    rw [q, e] at b3; cases b3; rw [hd] at b6; cases b6
  refine kdv_makeTailHit (mg := mg) hcl rfl hgs hcd (C.keeps F.keep) hm ht hf ⟨bm, ob, b1, b2, hbG, hbP, F.keep _ _ b3, b4, b5, b6⟩ fun ctv doc h' tk hk hsz => ?_
  have hLs : L < h'.objs.size := Nat.lt_of_lt_of_le F.ns.lt hsz
  have fresh : ∀ b, L < b → h₀.get? b = none := fun b hb => Heap.get?_none_of_le (Nat.le_trans F.above (Nat.le_of_lt hb))
  refine h h'.objs.size ctv doc _ tk ⟨(F.ns.keeps hk).push _, fun b o e => Heap.get?_push_of_some _ (hk b o (F.keep b o e)), F.above⟩ (fun q hq => ?_) (fun q hq => Nat.lt_of_lt_of_le (Heap.lt_size (N q hq).1) hsz)
  rcases List.mem_cons.mp hq with rfl | hq
  · exact ⟨Heap.get?_push_size _ rfl, Nat.ne_of_gt hLs, fresh _ hLs⟩
  · exact ⟨Heap.get?_push_of_some _ (hk _ _ (N q hq).1), (N q hq).2⟩
end
structure Base1 (w : World) (base : Heap) (p : Program) (loose : List Str) (mean : ExcName → Option Value) (mg mb : Str → Option Value) : Prop where
  K : (hd1.heap_39 w.params).In base
  T : Top p loose mean mg mb base
  C : CodeHd base 42 38
  none38 : base.get? 38 = none
/-- values that are these texts -/
noncomputable def StrsAre (vs : List Value) (xs : List Str) : Prop := vs.length = xs.length ∧ ∀ (i : Nat) (x : Str), xs[i]? = some x → ∃ t, vs[i]? = some (Value.str x t)
theorem StrsAre.nil : StrsAre [] [] := ⟨rfl, fun i x h => by simp at h⟩
theorem StrsAre.snoc {vs : List Value} {xs : List Str} (h : StrsAre vs xs) (x : Str) (t : Tok) : StrsAre (vs ++ [Value.str x t]) (xs ++ [x]) := by
  refine ⟨by simp [h.1], fun i y hy => ?_⟩
  by_cases hi : i < xs.length
  · rw [List.getElem?_append_left hi] at hy
    obtain ⟨t', e⟩ := h.2 i y hy
    exact ⟨t', by rw [List.getElem?_append_left (by rw [h.1]; exact hi)]; exact e⟩
  · rw [List.getElem?_append_right (Nat.le_of_not_lt hi)] at hy
    have : i - xs.length = 0 := by
      by_cases q : i - xs.length = 0
      · exact q
      · rw [List.getElem?_eq_none (by simp; omega)] at hy; cases hy
    rw [this] at hy
    have e : i = vs.length := by rw [h.1]; omega
    subst e
    have : x = y := by simpa using hy
    subst this
    exact ⟨t, by simp⟩
/-- the texts that formatargvalues puts together -/
noncomputable def specsOf (cell : Str → Except Str Str) : List (Str × Str) → Except Str (List Str)
  | [] => .ok []
  | (st, x) :: r => match cell x with
    | .error e => .error e
    | .ok c => match specsOf cell r with
      | .error e => .error e
      | .ok l => .ok ((st ++ x ++ c) :: l)
theorem specsOf_append (cell : Str → Except Str Str) : ∀ a b, specsOf cell (a ++ b) = match specsOf cell a with
    | .error e => .error e
    | .ok l => match specsOf cell b with
      | .error e => .error e
      | .ok l' => .ok (l ++ l')
  | [], b => by cases h : specsOf cell b <;> simp [specsOf, h]
  | (st, x) :: r, b => by
    simp only [List.cons_append, specsOf, specsOf_append cell r b]
    cases cell x with
    | error e => rfl
    | ok c =>
      cases specsOf cell r with
      | error e => rfl
      | ok l => cases specsOf cell b <;> rfl
theorem specsOf_err {cell : Str → Except Str Str} {a b : List (Str × Str)} {st x y : Str} {l : List Str} (ha : specsOf cell a = .ok l) (hx : cell x = .error y) : specsOf cell (a ++ (st, x) :: b) = .error y := by
  rw [specsOf_append, ha]
  simp only [specsOf, hx]
theorem specsOf_snoc {cell : Str → Except Str Str} {a : List (Str × Str)} {st x c : Str} {l : List Str} (ha : specsOf cell a = .ok l) (hx : cell x = .ok c) : specsOf cell (a ++ [(st, x)]) = .ok (l ++ [st ++ x ++ c]) := by
  rw [specsOf_append, ha]
  simp only [specsOf, hx]
theorem take_split {α : Type} {l : List α} {i : Nat} (hi : i < l.length) : l = l.take i ++ l[i] :: l.drop (i + 1) := by
  rw [← List.drop_eq_getElem_cons hi, List.take_append_drop]
theorem take_snoc {α : Type} {l : List α} {i : Nat} (hi : i < l.length) : l.take (i + 1) = l.take i ++ [l[i]] := by
  rw [List.take_add_one, List.getElem?_eq_getElem hi]; rfl
theorem noText_append (x : Str) : Str.ofString "" ++ x = x := by
  rw [show Str.ofString "" = Str.empty from rfl]; exact Str.empty_append x
theorem favSpecs_err {cell : Str → Except Str Str} {names : List Str} {oa ok : Option Str} {i : Nat} {l : List Str} {y : Str} (hi : i < names.length) (ha : specsOf cell ((names.map fun x => (Str.ofString "", x)).take i) = .ok l) (hx : cell names[i] = .error y) :
    specsOf cell (names.map (fun x => (Str.ofString "", x)) ++ (oa.toList.map fun x => (Str.ofString "*", x)) ++ (ok.toList.map fun x => (Str.ofString "**", x))) = .error y := by
  have hi' : i < (names.map fun x => (Str.ofString "", x)).length := by simpa using hi
  conv => lhs; rw [take_split hi']
  rw [List.append_assoc, List.append_assoc, List.cons_append]
  exact specsOf_err ha (by simpa using hx)
theorem specs_turn {cell : Str → Except Str Str} {names : List Str} {i : Nat} {l : List Str} {c : Str} (hi : i < names.length) (ha : specsOf cell ((names.map fun x => (Str.ofString "", x)).take i) = .ok l) (hx : cell names[i] = .ok c) :
    specsOf cell ((names.map fun x => (Str.ofString "", x)).take (i + 1)) = .ok (l ++ [names[i] ++ c]) := by
  have hi' : i < (names.map fun x => (Str.ofString "", x)).length := by simpa using hi
  rw [take_snoc hi']
  have := specsOf_snoc (st := Str.ofString "") ha hx
  rw [noText_append] at this
  simpa using this
theorem lens_snoc {l : List Str} {x : Str} {n : Nat} (h : ∀ y ∈ l, y.length ≤ n) (hx : x.length ≤ n) : ∀ y ∈ l ++ [x], y.length ≤ n := fun y hy =>
  (List.mem_append.mp hy).elim (h y) fun q => (List.mem_singleton.mp q) ▸ hx
/-- the frame and the list of texts between two statements of formatargvalues -/
noncomputable def SpPost (s : Shared) (h₀ : Heap) (L sp : Addr) (m₀ : Str → Option Value) (fixed : List (Addr × Obj)) (cell : Str → Except Str Str) (sl : List (Str × Str)) (n : Nat) (fl : Flow) (s' : Shared) : Prop :=
  fl = .next ∧ ∃ u l vs' k h' tk', s' = { s with heap := h', toks := tk' } ∧ Fr h₀ L h' (fun y => if y = Str.ofString "i" then u else m₀ y) ∧ News h₀ L h' ((sp, W.listOf (List.toArray vs') k) :: fixed) ∧
    specsOf cell sl = .ok l ∧ StrsAre vs' l ∧ (∀ x ∈ l, x.length ≤ 10200) ∧ l.length ≤ n
/-- a variadic name, or none -/
noncomputable def VarIs (v : Value) (o : Option Str) : Prop := (o = none ∧ (v = .none ∨ ∃ t, v = Value.str (Str.ofString "") t)) ∨ ∃ x t, o = some x ∧ v = Value.str x t ∧ 0 < x.length ∧ x.length ≤ 100
noncomputable def favSpecs (names : List Str) (va vk : Option Str) : List (Str × Str) := names.map (fun x => (Str.ofString "", x)) ++ (va.toList.map fun x => (Str.ofString "*", x)) ++ (vk.toList.map fun x => (Str.ofString "**", x))
theorem favErr1 {cell : Str → Except Str Str} {names : List Str} {x y : Str} {ok : Option Str} {l : List Str} (ha : specsOf cell (names.map fun x => (Str.ofString "", x)) = .ok l) (hx : cell x = .error y) : specsOf cell (favSpecs names (some x) ok) = .error y := by
  unfold favSpecs
  rw [List.append_assoc]
  exact specsOf_err ha hx
theorem favErr2 {cell : Str → Except Str Str} {names : List Str} {x y : Str} {oa : Option Str} {l : List Str} (ha : specsOf cell (names.map (fun x => (Str.ofString "", x)) ++ (oa.toList.map fun x => (Str.ofString "*", x))) = .ok l) (hx : cell x = .error y) : specsOf cell (favSpecs names oa (some x)) = .error y := by
  unfold favSpecs
  exact specsOf_err ha hx
end Mine
end -- D1
section -- F0
open PySem PySem.W PyProof.Rows PySem.Calls PySem.Spec
set_option maxHeartbeats 8000000
namespace Mine
variable {w : World} {base : Heap} {p : Program} {loose : List Str} {mean : ExcName → Option Value} {mg mb : Str → Option Value}
local macro_rules | `(tactic| walk_at "subscriptTail Name Name ref str") => `(tactic| refine Mine.Stop.mk ?_)
local macro_rules | `(tactic| walk_at "call ref") => `(tactic| ((with_reducible show wpAny _ _ (call (Value.ref 57) _ _) _ _ _); refine Mine.Stop.mk ?_))
local macro_rules | `(tactic| k_room) => `(tactic| ((have hRL9 : recursionLimit = 1000 := rfl); (simp only [depth_under_make, depth_under_kw, depth_in1, depth_deeper, depth_caller] at *); omega))
theorem conv (bs : Base1 w base p loose mean mg mb) {f' t' c' d : Addr} {pm doc ctv : Value} {x : Str} {tx : Tok} {f : Str → Option Value} {cell : Str → Except Str Str} {Pv : Value → Heap → Prop} {dv uv : Nat}
    (hd : (d == sysModules) = false) (hxl : x.length ≤ 100)
    (hn : ∀ x, f x = none → cell x = .error x) (hmono : ∀ v h h', Pv v h → h.StaysIn h' → Pv v h')
    (hv : ∀ x v, f x = some v → Calls PySem.Challenge.pw_dw0016_01 w base [] dv uv (fun h => Pv v h ∧ Hit h) (.ref 57) [v] [] (fun r _ => ∃ c tk, cell x = .ok c ∧ c.length ≤ 10000 ∧ r = Value.str c tk) (fun y B => Hit B ∧ cell x = .error y)) :
    Calls PySem.Challenge.pw_dw0016_01 w base [] (dv + 2) (uv + 20) (fun h => h.get? f' = some (convObj pm t' doc c' ctv) ∧ h.get? t' = some (kdv_tup [.ref d, .type "str", .ref 57]) ∧ h.CodeRec (.ref c') convQual ∧ h.MapOf (strKind PySem.Challenge.pw_dw0016_01 w) d f ∧ (∀ v, f x = some v → Pv v h) ∧ Hit h)
      (.ref f') [.str x tx] [] (fun r _ => ∃ c tk, cell x = .ok c ∧ c.length ≤ 10000 ∧ r = Value.str (x ++ c) tk) (fun y B => Hit B ∧ cell x = .error y) := by
  refine' calls_def (cl := []) (binds := [(Str.ofString "name", .str x tx), (Str.ofString "locals", .ref d), (Str.ofString "formatarg", .type "str"), (Str.ofString "formatvalue", .ref 57)]) ?hS bs.T.nolimit (fun h hp _ => hp.1) rfl (fun h hp _ => hp.2.2.1) (by omega) (fun s hp _ => BindsTo.of_defaults rfl hp.2.1 rfl rfl rfl) ?hloc ?body ?hcell ?hco ?hgen ?hk
  case hS => intro b hb; cases hb
  case hloc => exact locs rfl
  case hcell => decide
  case hco => exact rfl
  case hgen => exact rfl
  case hk => exact rfl
  intro A fr s L h₁ hA hpre hh hroom hu ff hSf stg B F st₁ hL
  obtain ⟨_, _, _, hmap, hPv, hhit⟩ := hpre
  have X := bs.K.keeps stg
  have T := bs.T.keeps stg
  have C := bs.C.keeps stg
  have N : News (hideAll s.heap []) L h₁ [] := News.nil
  k_steps
  have kp : KeepBut [] s.heap h₁ := KeepBut.of_stays st₁
  have ff₁ := (pushX (env := envX convQual (stScope convStmt) L f' (Value.ref c') []) B F rfl rfl).frames
  cases hfx : f x with
  | none =>
    refine dict_miss hd hh hmap F hfx fun h' e hx => ?_
    dsimp only at hx ⊢
    refine made_leave (S := []) (Er := fun B => Hit B ∧ cell x = .error x) hA rfl (Nat.le_of_eq hL.symm) kp ff₁ hx ⟨(hhit.keeps st₁).hide ff₁, hn x hfx⟩ fun h'' U => ?_
    exact ⟨x, e, h'', _, rfl, rfl, U⟩
  | some v =>
    refine dict_h0 hmap F hfx ?_
    k_steps
    show wpAny _ _ (call _ _ _) _ _ _
    refine use_calls (hv x v hfx) B F rfl rfl (fun b hb => nomatch hb) ⟨hmono _ _ _ (hPv v hfx) F.keep, hhit.keeps st₁⟩ hh (by omega) (by omega) ?_ ?_
    · rintro r h₂ tk₂ k₂ ⟨c, tc, hc, hcl, rfl⟩
      have st₂ : h₁.StaysIn h₂ := fun b o e => k₂ b o (fun m => nomatch m) e
      have F₂ := F.keeps st₂
      have N₂ : News (hideAll s.heap []) L h₂ [] := News.nil
      clear F N
      k_steps
      exact Out.mk F₂.keep ⟨c, _, hc, hcl, rfl⟩
    · intro y e h₂ tk₂ U
      refine up_leave (h := s.heap) hA rfl (Nat.le_of_eq hL.symm) kp rfl U fun h'' U' => ?_
      exact ⟨y, e, h'', _, rfl, rfl, U'⟩
theorem lam21 (bs : Base1 w base p loose mean mg mb) {x : Str} {tx : Tok} (hxl : x.length ≤ 100) :
    Calls PySem.Challenge.pw_dw0016_01 w base [] 1 10 (fun _ => True) (.ref 21) [.str x tx] [] (fun r _ => ∃ tk, r = Value.str (Str.ofString "*" ++ x) tk) (fun _ _ => False) := by
  refine' calls_KE (K := hd1.heap_39 w.params) (binds := [(Str.ofString "name", .str x tx)]) ?hS bs.T.nolimit bs.K (by omega) ?ho ?hcd ?hbind ?hloc ?body ?hcell ?hco ?hgen ?hk
  case ho => k_is
  case hcd => k_is
  case hS => intro b hb; cases hb
  case hbind => exact rfl
  case hloc => exact locs rfl
  case hcell => decide
  case hco => exact rfl
  case hgen => exact rfl
  case hk => exact rfl
  intro A fr s L h₁ hA hpre hh hroom hu ff hSf stg B F st₁ hL
  have X := bs.K.keeps stg
  have T := bs.T.keeps stg
  have N : News (hideAll s.heap []) L h₁ [] := News.nil
  k_steps
  exact Out.mk F.keep ⟨_, rfl⟩
theorem lam28 (bs : Base1 w base p loose mean mg mb) {x : Str} {tx : Tok} (hxl : x.length ≤ 100) :
    Calls PySem.Challenge.pw_dw0016_01 w base [] 1 10 (fun _ => True) (.ref 28) [.str x tx] [] (fun r _ => ∃ tk, r = Value.str (Str.ofString "**" ++ x) tk) (fun _ _ => False) := by
  refine' calls_KE (K := hd1.heap_39 w.params) (binds := [(Str.ofString "name", .str x tx)]) ?hS bs.T.nolimit bs.K (by omega) ?ho ?hcd ?hbind ?hloc ?body ?hcell ?hco ?hgen ?hk
  case ho => k_is
  case hcd => k_is
  case hS => intro b hb; cases hb
  case hbind => exact rfl
  case hloc => exact locs rfl
  case hcell => decide
  case hco => exact rfl
  case hgen => exact rfl
  case hk => exact rfl
  intro A fr s L h₁ hA hpre hh hroom hu ff hSf stg B F st₁ hL
  have X := bs.K.keeps stg
  have T := bs.T.keeps stg
  have N : News (hideAll s.heap []) L h₁ [] := News.nil
  k_steps
  exact Out.mk F.keep ⟨_, rfl⟩
end Mine
end -- F0
section -- F1
open PySem PySem.W PyProof.Rows PySem.Calls PySem.Spec
set_option maxHeartbeats 8000000
namespace Mine
variable {w : World} {base : Heap} {p : Program} {loose : List Str} {mean : ExcName → Option Value} {mg mb : Str → Option Value}
local macro_rules | `(tactic| walk_at "subscriptTail Name Name ref int") => `(tactic| refine Mine.Stop.mk ?_)
local macro_rules | `(tactic| walk_at "subscriptTail Name Name ref str") => `(tactic| refine Mine.Stop.mk ?_)
local macro_rules | `(tactic| walk_at "call builtin:list.append cons nil") => `(tactic| refine Mine.Stop.mk ?_)
local macro_rules | `(tactic| walk_at "call builtin:len cons nil") => `(tactic| refine Mine.Stop.mk ?_)
local macro_rules | `(tactic| walk_at "call builtin:str.join cons nil") => `(tactic| refine Mine.Stop.mk ?_)
local macro_rules | `(tactic| walk_at "call ref cons nil") => `(tactic| refine Mine.Stop.mk ?_)
local macro_rules | `(tactic| walk_at "pyIter ref") => `(tactic| refine Mine.Stop.mk ?_)
local macro_rules | `(tactic| walk_at "call ref") => `(tactic| ((with_reducible show wpAny _ _ (call (Value.ref 57) _ _) _ _ _); refine Mine.Stop.mk ?_))
local macro_rules | `(tactic| walk_at "truthy str") => `(tactic| refine Mine.Stop.mk ?_)
local macro_rules | `(tactic| k_room) => `(tactic| ((have hRL9 : recursionLimit = 1000 := rfl); (simp only [depth_under_make, depth_under_kw, depth_in1, depth_deeper, depth_caller] at *); omega))
noncomputable abbrev favBinds (aArgs d : Addr) (va vk : Value) : List (Str × Value) := [(Str.ofString "args", .ref aArgs), (Str.ofString "varargs", va), (Str.ofString "varkw", vk), (Str.ofString "locals", .ref d), (Str.ofString "formatarg", .type "str"), (Str.ofString "formatvarargs", .ref 21), (Str.ofString "formatvarkw", .ref 28), (Str.ofString "formatvalue", .ref 57)]
theorem hSbase (bs : Base1 w base p loose mean mg mb) {S : List Addr} (hSS : S = [] ∨ S = [38]) : ∀ b ∈ S, base.get? b = none := by
  rcases hSS with rfl | rfl
  · exact fun _ h => nomatch h
  · exact fun b h => by rw [List.mem_singleton.mp h]; exact bs.none38
theorem strsAre_values {vs : List Value} {xs : List Str} (h : StrsAre vs xs) : ∃ l : List (Str × Tok), vs = strValues l ∧ l.map (·.1) = xs := by
  obtain ⟨h1, h2⟩ := h
  induction xs generalizing vs with
  | nil => exact ⟨[], by simpa [strValues] using h1, rfl⟩
  | cons x r ih =>
    cases vs with
    | nil => cases h1
    | cons v vs =>
      obtain ⟨l, e1, e2⟩ := ih (vs := vs) (by simpa using h1) (fun i y hy => by simpa using h2 (i + 1) y (by simpa using hy))
      obtain ⟨t, ht⟩ := h2 0 x rfl
      simp only [List.getElem?_cons_zero, Option.some.injEq] at ht
      exact ⟨(x, t) :: l, by simp [strValues, ht, e1], by simp [e2]⟩
theorem foldl_len (k : Nat) (l : List Str) (n : Nat) (h : ∀ x ∈ l, x.length ≤ n) : ∀ a, l.foldl (fun a x => a + x.length + k) a ≤ a + l.length * (n + k) := by
  induction l with
  | nil => intro a; simp
  | cons x r ih =>
    intro a
    rw [List.foldl_cons, List.length_cons, Nat.add_mul]
    have := ih (fun y hy => h y (.tail _ hy)) (a + x.length + k)
    have := h x (.head _)
    omega
theorem joinOk_of {l : List Str} (h : ∀ x ∈ l, x.length ≤ 10200) (hl : l.length ≤ 1000) : JoinOk (Str.ofString ", ") l = true := by
  unfold JoinOk
  rw [Bool.not_eq_true']
  unfold Builtin.Str.tooLong
  rw [decide_eq_false_iff_not, List.foldl_toArray]
  have := foldl_len 2 l 10200 h 0
  have e : (Str.ofString ", ").length = 2 := rfl
  have : sizeLine = 2 ^ 24 := rfl
  have : l.length * (10200 + 2) ≤ 1000 * (10200 + 2) := Nat.mul_le_mul_right _ hl
  rw [e]
  omega
theorem joinLen {l : List Str} (h : ∀ x ∈ l, x.length ≤ 10200) (hl : l.length ≤ 102) : (Txt.join (Str.ofString ", ") l).length ≤ 2000000 := by
  show (Builtin.Str.glued (Str.ofString ", ") l).length ≤ 2000000
  rw [StrLaws.glued_eq_join]
  have h1 := StrLaws.join_length_le (Str.ofString ", ") l
  have h2 := StrLaws.sumLen_le l h
  have e : (Str.ofString ", ").length = 2 := rfl
  rw [e] at h1
  have : l.length * 10200 ≤ 102 * 10200 := Nat.mul_le_mul_right _ hl
  omega
theorem fav (bs : Base1 w base p loose mean mg mb) {S : List Addr} (hSS : S = [] ∨ S = [38]) {aArgs d : Addr} {vs : List Value} {names : List Str} {va vk : Value} {oa ok : Option Str} {f : Str → Option Value} {cell : Str → Except Str Str} {Pv : Value → Heap → Prop} {dv uv : Nat}
    (hvs : StrsAre vs names) (hva : VarIs va oa) (hvk : VarIs vk ok) (hd : (d == sysModules) = false) (hlen : names.length ≤ 100) (hnl : ∀ x ∈ names, x.length ≤ 100)
    (hn : ∀ x, f x = none → cell x = .error x) (hmono : ∀ v h h', Pv v h → h.StaysIn h' → Pv v h')
    (hv : ∀ x v, f x = some v → Calls PySem.Challenge.pw_dw0016_01 w base [] dv uv (fun h => Pv v h ∧ Hit h) (.ref 57) [v] [] (fun r _ => ∃ c tk, cell x = .ok c ∧ c.length ≤ 10000 ∧ r = Value.str c tk) (fun y B => Hit B ∧ cell x = .error y)) :
    Calls PySem.Challenge.pw_dw0016_01 w base S (dv + 4) (uv + 40) (fun h => (hideAll h S).IsList aArgs vs.toArray ∧ (hideAll h S).MapOf (strKind PySem.Challenge.pw_dw0016_01 w) d f ∧ (∀ x v, f x = some v → Pv v (hideAll h S)) ∧ ((S = [] ∧ Hit h) ∨ (S = [38] ∧ h.get? 38 = some (tabObj #[]))))
      (.ref 43) [.ref aArgs, va, vk, .ref d] [(Str.ofString "formatvalue", .ref 57)] (fun r h' => Hit h' ∧ ∃ l tk, specsOf cell (favSpecs names oa ok) = .ok l ∧ r = Value.str (Str.ofString "(" ++ Str.join (Str.ofString ", ") l ++ Str.ofString ")") tk) (fun y h' => Hit h' ∧ specsOf cell (favSpecs names oa ok) = .error y) := by
  refine' calls_K (K := hd1.heap_39 w.params) (binds := favBinds aArgs d va vk) ?hS bs.T.nolimit bs.K (by omega) ?ho ?hcd ?hbind ?hloc ?body ?hcell ?hco ?hgen ?hk
  case ho => k_is
  case hcd => k_is
  case hS => exact hSbase bs hSS
  case hbind => exact fun s st => binds_K st rfl (by k_is) rfl rfl rfl
  case hloc => exact locs rfl
  case hcell => decide
  case hco => exact rfl
  case hgen => exact rfl
  case hk => exact rfl
  intro A fr s L h₁ hA hpre hh hroom hu ff hSf stg B F st₁ hL
  obtain ⟨hargs, hmap, hPv, hmode⟩ := hpre
  have hr1 : A.depth + 1 + (dv + 2) < recursionLimit := by omega
  have hu1 : A.units + 3 + (uv + 20) < cLine := by omega
  have hr2 : A.depth + 1 + 1 < recursionLimit := by omega
  have hu2 : A.units + 3 + 10 < cLine := by omega
  have hr3 : A.depth + 1 + dv < recursionLimit := by omega
  have hu3 : A.units + 3 + uv < cLine := by omega
  have X := bs.K.keeps stg
  have T := bs.T.keeps stg
  have C := bs.C.keeps stg
  refine stop_cons ?_
  refine wpAny_mono (Q := ConvPost s (hideAll s.heap S) L (fun y => (favBinds aArgs d va vk).reverse.lookup y) [.ref d, .type "str", .ref 57] ((mg (Str.ofString "__name__")).getD .none)) ?_ ?_ (fun _ _ e => e)
  · rcases hmode with ⟨rfl, c', hc1, hc2⟩ | ⟨rfl, hc⟩
    · have N : News (hideAll s.heap []) L h₁ [] := News.nil
      k_steps
      rename News _ _ _ _ => N'
      rename Fr _ _ _ _ => F'
      refine hit0 (c' := c') (a := 43) F' N' T C rfl hc1 (by simp [TriplesOk, rawInt]) rfl rfl ?_
      intro f' ctv doc h' tk F' N' l1
      k_steps
      rename News _ _ _ _ => N'
      rename Fr _ _ _ _ => F'
      exact conv_hit F' N' hc1 hc2
    · have N : News (hideAll s.heap [38]) L h₁ [(38, tabObj #[])] := fun q hq => by
        rw [List.mem_singleton.mp hq]
        exact ⟨st₁ _ _ hc, by rw [hL]; exact Nat.ne_of_lt (Heap.lt_size hc), hideAll_none _ (.head _)⟩
      k_steps
      rename News _ _ _ _ => N'
      rename Fr _ _ _ _ => F'
      rename (_ : Array Value)[1]? = _ => d2
      rename Obj.data _ = Data.fields _ => d1
      exact conv_miss F' N' d1 d2
  · rintro fl s' ⟨rfl, f', t', c', ctv, doc, own, h', tk', rfl, F', N', hown⟩
    clear F hmode
    show wpAny _ _ (execs _ _) _ _ _
    refine stop_cons ?_
    k_steps
    rename News _ _ _ _ => N'
    rename Fr _ _ _ _ => F'
    rename Addr => sp
    show wpAny _ _ (execs _ _) _ _ _
    refine stop_cons ?_
    refine For_invV (hideAll s.heap S) rfl rfl ?_
    k_steps
    refine len_h0 hargs F' (by rw [hvs.1]; omega) ?_
    k_steps
    show wpAny _ _ (pyIter _) _ _ _
    rename News _ _ _ _ => N'
    rename Fr _ _ _ _ => F'
    rename IsRange _ _ _ _ _ _ _ _ => hr
    rename _ ∧ _ ∧ AllLt sp own => lsp
    obtain ⟨hsf, hst, hso⟩ := lsp
    have hsp : ∀ p ∈ own, p.1 ≠ sp := fun p hp => Nat.ne_of_lt (allLt_mem hso p hp)
    refine range_loop (n := vs.length) (fun i m news => ∃ u l vs' k, m = (fun y => if y = Str.ofString "i" then u else if y = Str.ofString "specs" then some (Value.ref sp) else if y = Str.ofString "convert" then some (Value.ref f') else (favBinds aArgs d va vk).reverse.lookup y) ∧
      news = (sp, W.listOf vs'.toArray k) :: (f', convObj ((mg (Str.ofString "__name__")).getD Value.none) t' doc c' ctv) :: (t', kdv_tup [.ref d, .type "str", .ref 57]) :: own ∧
      specsOf cell ((names.map fun x => (Str.ofString "", x)).take i) = .ok l ∧ StrsAre vs' l ∧ (∀ x ∈ l, x.length ≤ 10200) ∧ l.length = i) hh hr (by rw [hvs.1]; omega) F' N' ?_ ?_ ?_
    · exact ⟨none, [], [], 0, by
        funext y
        by_cases hy : y = Str.ofString "i"
        · subst hy; rfl
        · simp only [if_neg hy], rfl, by simp [specsOf], StrsAre.nil, by simp, rfl⟩
    · rintro i t m₁ news₁ h tk I io hi ⟨u, l, vs', k, rfl, rfl, hl, hs, hb, hli⟩ hne F₁ N₁
      clear F' N'
      have hi' : i < names.length := by rw [← hvs.1]; exact hi
      obtain ⟨tx, hx⟩ := hvs.2 i names[i] (by simp [hi'])
      replace F₁ : Fr (hideAll s.heap S) L h _ := F₁
      replace N₁ : News (hideAll s.heap S) L h _ := N₁
      k_steps
      refine item_h0 hargs F₁ (by omega) hx ?_
      k_steps
      have mem : ∀ q ∈ own, h.get? q.1 = some q.2 := fun q hq => (N₁ q (.tail _ (.tail _ (.tail _ (.tail _ hq))))).1
      obtain ⟨hhit, hrec⟩ := hown h F₁.keep mem
      refine use_calls (conv bs hd (hnl _ (List.getElem_mem hi')) hn hmono hv) B F₁ rfl rfl (fun b hb => nomatch hb) ⟨(N₁ _ (.tail _ (.tail _ (.head _)))).1, (N₁ _ (.tail _ (.tail _ (.tail _ (.head _))))).1, hrec, mapOf_keeps hmap F₁.keep, fun v hfv => hmono _ _ _ (hPv _ v hfv) F₁.keep, hhit⟩ hh hr1 hu1 ?_ ?_
      · rintro r h₂ tk₂ k₂ ⟨c, tc, hc, hcl, rfl⟩
        have st₂ : h.StaysIn h₂ := fun b o e => k₂ b o (fun m => nomatch m) e
        have F₂ := F₁.keeps st₂
        have N₂ := N₁.keeps st₂
        clear F₁ N₁ mem
        k_steps
        refine append_K F₂ N₂ (Upd.tail ?_ (Upd.head ?_)) ?_ (by rw [List.size_toArray, hs.1, hli]; have : sizeLine = 2 ^ 24 := rfl; omega)
        · exact Ne.symm (hne _ (.head _))
        · exact List.forall_mem_cons.mpr ⟨Nat.ne_of_lt hsf, List.forall_mem_cons.mpr ⟨Nat.ne_of_lt hst, hsp⟩⟩
        intro h₃ F₃ N₃
        k_steps
        rw [List.push_toArray] at N₃
        have hlc : (names[i] ++ c).length ≤ 10200 := by rw [Str.length_append]; have := hnl _ (List.getElem_mem hi'); omega
        refine ⟨h₃, _, _, _, rfl, F₃, N₃, ?_, some (.int i t), l ++ [names[i] ++ c], vs' ++ [Value.str (names[i] ++ c) tc], k + 1, ?_, rfl, specs_turn hi' hl hc, hs.snoc _ _, lens_snoc hb hlc, by simp [hli]⟩
        · intro q hq
          rcases List.mem_cons.mp hq with rfl | hq
          · exact hne (sp, W.listOf vs'.toArray k) (.head _)
          · exact hne _ (.tail _ hq)
        · funext y
          dsimp only
          split <;> rfl
      · intro y e h₂ tk₂ U
        have U' := U.more (S' := S) (Er' := fun B => Hit B ∧ specsOf cell (favSpecs names oa ok) = .error y) (fun b hb => nomatch hb) fun B hB => ⟨hB.1, favSpecs_err hi' hl hB.2⟩
        refine up_leave (h := s.heap) hA rfl (Nat.le_of_eq hL.symm) (KeepBut.of_hide F₁.keep) rfl U' fun h'' U'' => ?_
        exact ⟨y, e, h'', _, rfl, rfl, U''⟩
    · rintro m₁ news₁ h tk ⟨u, l, vs', k, rfl, rfl, hl, hs, hb, hli⟩ F₃ N₃
      clear F' N'
      rw [hvs.1, List.take_of_length_le (by simp)] at hl
      rw [hvs.1] at hli
      replace F₃ : Fr (hideAll s.heap S) L h _ := F₃
      replace N₃ : News (hideAll s.heap S) L h _ := N₃
      show wpAny _ _ (execs _ _) _ _ _
      refine stop_cons ?_
      refine wpAny_mono (Q := SpPost s (hideAll s.heap S) L sp (fun y => if y = Str.ofString "specs" then some (Value.ref sp) else if y = Str.ofString "convert" then some (Value.ref f') else (favBinds aArgs d va vk).reverse.lookup y)
        ((f', convObj ((mg (Str.ofString "__name__")).getD Value.none) t' doc c' ctv) :: (t', kdv_tup [.ref d, .type "str", .ref 57]) :: own) cell (names.map (fun x => (Str.ofString "", x)) ++ (oa.toList.map fun x => (Str.ofString "*", x))) 101) ?_ ?_ (fun _ _ e => e)
      · rcases hva with ⟨rfl, hva⟩ | ⟨x, tx, rfl, rfl, hx0, hxl⟩
        · rcases hva with rfl | ⟨t₀, rfl⟩
          · k_steps
            exact ⟨rfl, u, l, vs', k, _, _, rfl, F₃, N₃, by simpa using hl, hs, hb, by omega⟩
          · k_steps
            show wpAny _ _ (truthy _) _ _ _
            refine KXt.truthy (b := false) (by decide +kernel) (by decide +kernel) fun kk => ?_
            k_steps
            exact ⟨rfl, u, l, vs', k, _, _, rfl, F₃, N₃, by simpa using hl, hs, hb, by omega⟩
        ·
          k_steps
          show wpAny _ _ (truthy _) _ _ _
          refine KXt.truthy_pos (K := 100) hx0 hxl (by decide) fun kk => ?_
          k_steps
          refine use_calls (lam21 bs hxl) B F₃ rfl rfl (fun b hb => nomatch hb) trivial hh hr2 hu2 ?_ (fun _ _ _ _ U => let ⟨_, _, _, _, e, _⟩ := U; e.elim)
          rintro r h₄ tk₄ k₄ ⟨tc₄, rfl⟩
          have st₄ : h.StaysIn h₄ := fun b o e => k₄ b o (fun m => nomatch m) e
          have F₄ := F₃.keeps st₄
          have N₄ := N₃.keeps st₄
          clear F₃ N₃
          have mem : ∀ q ∈ own, h₄.get? q.1 = some q.2 := fun q hq => (N₄ q (.tail _ (.tail _ (.tail _ hq)))).1
          obtain ⟨hhit, _⟩ := hown h₄ F₄.keep mem
          k_steps
          have ff₄ := (pushX B F₄ (env := envOf (Str.ofString "formatargvalues") (stScope favStmt) L 43 (Value.ref 42)) rfl rfl).frames
          cases hfx : f x with
          | none =>
            refine dict_miss hd hh hmap F₄ hfx fun h' e hx => ?_
            dsimp only at hx ⊢
            refine made_leave (S := S) (Er := fun B => Hit B ∧ specsOf cell (favSpecs names (some x) ok) = .error x) hA rfl (Nat.le_of_eq hL.symm) (KeepBut.of_hide F₄.keep) ff₄ hx ⟨hhit.hide ff₄, favErr1 hl (hn x hfx)⟩ fun h'' U => ?_
            exact ⟨x, e, h'', _, rfl, rfl, U⟩
          | some v =>
            refine dict_h0 hmap F₄ hfx ?_
            k_steps
            show wpAny _ _ (call _ _ _) _ _ _
            refine use_calls (hv x v hfx) B F₄ rfl rfl (fun b hb => nomatch hb) ⟨hmono _ _ _ (hPv x v hfx) F₄.keep, hhit⟩ hh hr3 hu3 ?_ ?_
            · rintro r h₂ tk₂ k₂ ⟨c, tc, hc, hcl, rfl⟩
              have st₂ : h₄.StaysIn h₂ := fun b o e => k₂ b o (fun m => nomatch m) e
              have F₂ := F₄.keeps st₂
              have N₂ := N₄.keeps st₂
              clear F₄ N₄ mem
              k_steps
              refine append_K F₂ N₂ (Upd.head ?_) ?_ (by rw [List.size_toArray, hs.1]; have : sizeLine = 2 ^ 24 := rfl; omega)
              · exact List.forall_mem_cons.mpr ⟨Nat.ne_of_lt hsf, List.forall_mem_cons.mpr ⟨Nat.ne_of_lt hst, hsp⟩⟩
              intro h₅ F₅ N₅
              k_steps
              rw [List.push_toArray] at N₅
              have hlc : (Str.ofString "*" ++ x ++ c).length ≤ 10200 := by rw [Str.length_append, Str.length_append, show (Str.ofString "*").length = 1 from rfl]; omega
              exact ⟨rfl, u, _, _, k + 1, _, _, rfl, F₅, N₅, specsOf_snoc hl hc, hs.snoc _ _, lens_snoc hb hlc, by simp; omega⟩
            · intro y e h₂ tk₂ U
              have U' := U.more (S' := S) (Er' := fun B => Hit B ∧ specsOf cell (favSpecs names (some x) ok) = .error y) (fun b hb => nomatch hb) fun B hB => ⟨hB.1, favErr1 hl hB.2⟩
              refine up_leave (h := s.heap) hA rfl (Nat.le_of_eq hL.symm) (KeepBut.of_hide F₄.keep) rfl U' fun h'' U'' => ?_
              exact ⟨y, e, h'', _, rfl, rfl, U''⟩
      · rintro fl s' ⟨rfl, u, l, vs', k, h, tk, rfl, F₃, N₃, hl, hs, hb, hli⟩
        show wpAny _ _ (execs _ _) _ _ _
        refine stop_cons ?_
        refine wpAny_mono (Q := SpPost s (hideAll s.heap S) L sp (fun y => if y = Str.ofString "specs" then some (Value.ref sp) else if y = Str.ofString "convert" then some (Value.ref f') else (favBinds aArgs d va vk).reverse.lookup y)
          ((f', convObj ((mg (Str.ofString "__name__")).getD Value.none) t' doc c' ctv) :: (t', kdv_tup [.ref d, .type "str", .ref 57]) :: own) cell (favSpecs names oa ok) 102) ?_ ?_ (fun _ _ e => e)
        · rcases hvk with ⟨rfl, hvk⟩ | ⟨x, tx, rfl, rfl, hx0, hxl⟩
          · rcases hvk with rfl | ⟨t₀, rfl⟩
            · k_steps
              exact ⟨rfl, u, l, vs', k, _, _, rfl, F₃, N₃, by simpa [favSpecs] using hl, hs, hb, by omega⟩
            · k_steps
              show wpAny _ _ (truthy _) _ _ _
              refine KXt.truthy (b := false) (by decide +kernel) (by decide +kernel) fun kk => ?_
              k_steps
              exact ⟨rfl, u, l, vs', k, _, _, rfl, F₃, N₃, by simpa [favSpecs] using hl, hs, hb, by omega⟩
          ·
            k_steps
            show wpAny _ _ (truthy _) _ _ _
            refine KXt.truthy_pos (K := 100) hx0 hxl (by decide) fun kk => ?_
            k_steps
            refine use_calls (lam28 bs hxl) B F₃ rfl rfl (fun b hb => nomatch hb) trivial hh hr2 hu2 ?_ (fun _ _ _ _ U => let ⟨_, _, _, _, e, _⟩ := U; e.elim)
            rintro r h₄ tk₄ k₄ ⟨tc₄, rfl⟩
            have st₄ : h.StaysIn h₄ := fun b o e => k₄ b o (fun m => nomatch m) e
            have F₄ := F₃.keeps st₄
            have N₄ := N₃.keeps st₄
            clear F₃ N₃
            have mem : ∀ q ∈ own, h₄.get? q.1 = some q.2 := fun q hq => (N₄ q (.tail _ (.tail _ (.tail _ hq)))).1
            obtain ⟨hhit, _⟩ := hown h₄ F₄.keep mem
            k_steps
            have ff₄ := (pushX B F₄ (env := envOf (Str.ofString "formatargvalues") (stScope favStmt) L 43 (Value.ref 42)) rfl rfl).frames
            cases hfx : f x with
            | none =>
              refine dict_miss hd hh hmap F₄ hfx fun h' e hx => ?_
              dsimp only at hx ⊢
              refine made_leave (S := S) (Er := fun B => Hit B ∧ specsOf cell (favSpecs names oa (some x)) = .error x) hA rfl (Nat.le_of_eq hL.symm) (KeepBut.of_hide F₄.keep) ff₄ hx ⟨hhit.hide ff₄, favErr2 hl (hn x hfx)⟩ fun h'' U => ?_
              exact ⟨x, e, h'', _, rfl, rfl, U⟩
            | some v =>
              refine dict_h0 hmap F₄ hfx ?_
              k_steps
              show wpAny _ _ (call _ _ _) _ _ _
              refine use_calls (hv x v hfx) B F₄ rfl rfl (fun b hb => nomatch hb) ⟨hmono _ _ _ (hPv x v hfx) F₄.keep, hhit⟩ hh hr3 hu3 ?_ ?_
              · rintro r h₂ tk₂ k₂ ⟨c, tc, hc, hcl, rfl⟩
                have st₂ : h₄.StaysIn h₂ := fun b o e => k₂ b o (fun m => nomatch m) e
                have F₂ := F₄.keeps st₂
                have N₂ := N₄.keeps st₂
                clear F₄ N₄ mem
                k_steps
                refine append_K F₂ N₂ (Upd.head ?_) ?_ (by rw [List.size_toArray, hs.1]; have : sizeLine = 2 ^ 24 := rfl; omega)
                · exact List.forall_mem_cons.mpr ⟨Nat.ne_of_lt hsf, List.forall_mem_cons.mpr ⟨Nat.ne_of_lt hst, hsp⟩⟩
                intro h₅ F₅ N₅
                k_steps
                rw [List.push_toArray] at N₅
                have hlc : (Str.ofString "**" ++ x ++ c).length ≤ 10200 := by rw [Str.length_append, Str.length_append, show (Str.ofString "**").length = 2 from rfl]; omega
                exact ⟨rfl, u, _, _, k + 1, _, _, rfl, F₅, N₅, specsOf_snoc hl hc, hs.snoc _ _, lens_snoc hb hlc, by simp; omega⟩
              · intro y e h₂ tk₂ U
                have U' := U.more (S' := S) (Er' := fun B => Hit B ∧ specsOf cell (favSpecs names oa (some x)) = .error y) (fun b hb => nomatch hb) fun B hB => ⟨hB.1, favErr2 hl hB.2⟩
                refine up_leave (h := s.heap) hA rfl (Nat.le_of_eq hL.symm) (KeepBut.of_hide F₄.keep) rfl U' fun h'' U'' => ?_
                exact ⟨y, e, h'', _, rfl, rfl, U''⟩
        · rintro fl s' ⟨rfl, u, l, vs', k, h, tk, rfl, F₃, N₃, hl, hs, hb, hli⟩
          show wpAny _ _ (execs _ _) _ _ _
          obtain ⟨sl, rfl, hsl⟩ := strsAre_values hs
          have hmem : ∀ q ∈ own, h.get? q.1 = some q.2 := fun q hq => (N₃ q (.tail _ (.tail _ (.tail _ hq)))).1
          obtain ⟨hhit, _⟩ := hown h F₃.keep hmem
          have hjl : (Txt.join (Str.ofString ", ") l).length ≤ 2000000 := joinLen hb (by omega)
          k_steps
          refine SC.join (D := sp) ⟨_, (N₃ _ (.head _)).1, rfl, _, rfl⟩ hsl (joinOk_of hb (by omega)) fun t' kk => ?_
          k_steps
          exact Out.mk F₃.keep ⟨hhit, l, _, hl, by rw [show Txt.join (Str.ofString ", ") l = Str.join (Str.ofString ", ") l from StrLaws.glued_eq_join _ _]⟩
end Mine
end -- F1
section -- P1
open PySem PySem.W PyProof.Rows PySem.Calls PySem.Spec
namespace Mine
/-! law 01, plain: frames within frames -/
inductive Cell where
  | num (i : Int)
  | sub (j : Nat)
noncomputable abbrev Rows := List (Str × Cell)
/-- the rows of a frame: a number, or a frame (its number, its rows), then the rest -/
inductive T where
  | nil
  | num (x : Str) (i : Int) (r : T)
  | sub (x : Str) (j : Nat) (k r : T)
namespace T
noncomputable def len : T → Nat
  | nil => 0
  | num _ _ r => r.len + 1
  | sub _ _ _ r => r.len + 1
noncomputable def size : T → Nat
  | nil => 0
  | num _ _ r => r.size + 1
  | sub _ _ k r => k.size + r.size + 1
noncomputable def names : T → List Str
  | nil => []
  | num x _ r => x :: r.names
  | sub x _ _ r => x :: r.names
noncomputable def pre : T → List Str
  | nil => []
  | num x _ r => x :: r.pre
  | sub x _ k r => x :: (k.pre ++ r.pre)
noncomputable def ids : T → List Nat
  | nil => []
  | num _ _ r => r.ids
  | sub _ j k r => j :: (k.ids ++ r.ids)
end T
inductive Spells (ar : Nat → Rows) : Rows → T → Prop
  | nil : Spells ar [] .nil
  | num {x : Str} {i : Int} {r : Rows} {t : T} : Spells ar r t → Spells ar ((x, .num i) :: r) (.num x i t)
  | sub {x : Str} {j : Nat} {r : Rows} {k t : T} : Spells ar (ar j) k → Spells ar r t → Spells ar ((x, .sub j) :: r) (.sub x j k t)
noncomputable def starsOf (n k : Nat) : Nat := if 2 ≤ n % 4 ∧ n - 1 - k = 0 then 2 else if n % 4 % 2 = 1 ∧ n - 1 - k = n % 4 / 2 then 1 else 0
noncomputable def starText : Nat → Str
  | 0 => Str.ofString ""
  | 1 => Str.ofString "*"
  | _ => Str.ofString "**"
noncomputable def wrap (l : List Str) : Str := Str.ofString "(" ++ Str.join (Str.ofString ", ") l ++ Str.ofString ")"
namespace T
noncomputable def texts (n : Nat) : T → Nat → List Str
  | nil, _ => []
  | num x i r, k => (starText (starsOf n k) ++ x ++ (Str.ofString "=" ++ Str.ofString (toString i))) :: texts n r (k + 1)
  | sub x _ t r, k => (starText (starsOf n k) ++ x ++ (Str.ofString "=" ++ wrap (texts t.len t 0))) :: texts n r (k + 1)
noncomputable def text (t : T) : Str := wrap (t.texts t.len 0)
/-- the first name that is lost, in the text's order -/
noncomputable def miss (lost : Str → Bool) : T → Option Str
  | nil => none
  | num x _ r => if lost x then some x else r.miss lost
  | sub x _ k r => if lost x then some x else match k.miss lost with
    | some y => some y
    | none => r.miss lost
noncomputable def due (n : Nat) : T → Nat → List PyData
  | nil, _ => []
  | num x i r, k => .tuple [.str (starText (starsOf n k) ++ x), .int i] :: due n r (k + 1)
  | sub x _ t r, k => .tuple [.str (starText (starsOf n k) ++ x), .list (due t.len t 0)] :: due n r (k + 1)
noncomputable def dueD (t : T) : PyData := .list (t.due t.len 0)
end T
theorem T.names_length : ∀ t : T, t.names.length = t.len
  | .nil => rfl
  | .num _ _ r => by simp [T.names, T.len, T.names_length r]
  | .sub _ _ _ r => by simp [T.names, T.len, T.names_length r]
theorem Spells.names {ar : Nat → Rows} {r : Rows} {t : T} (h : Spells ar r t) : r.map (·.1) = t.names := by
  induction h with
  | nil => rfl
  | num _ ih => simp [T.names, ih]
  | sub _ _ _ ih => simp [T.names, ih]
theorem Spells.length {ar : Nat → Rows} {r : Rows} {t : T} (h : Spells ar r t) : r.length = t.len := by
  rw [← T.names_length, ← h.names, List.length_map]
end Mine
end -- P1
section -- P2
open PySem PySem.W PyProof.Rows PySem.Calls PySem.Spec
namespace Mine
/-- names of 1 to 10 signs, ints from -500 to 499 -/
noncomputable def T.ok : T → Prop
  | .nil => True
  | .num x i r => (0 < x.length ∧ x.length ≤ 10) ∧ (-500 ≤ i ∧ i < 500) ∧ r.ok
  | .sub x _ k r => (0 < x.length ∧ x.length ≤ 10) ∧ k.names.Nodup ∧ k.ok ∧ r.ok
theorem natText_small : ∀ n : Nat, n < 1000 → (Str.ofString (toString n)).length ≤ 3 := by decide +kernel
theorem intText_small (i : Int) (h : -500 ≤ i ∧ i < 500) : (Str.ofString (toString i)).length ≤ 4 := by
  have key : ∀ n : Nat, n < 1000 → (Str.ofString (toString ((n : Int) - 500))).length ≤ 4 := by decide +kernel
  have := key (i + 500).toNat (by omega)
  rwa [show (((i + 500).toNat : Nat) : Int) - 500 = i by omega] at this
theorem starText_len (k : Nat) : (starText k).length ≤ 2 := by
  match k with
  | 0 => decide
  | 1 => decide
  | n + 2 => show (Str.ofString "**").length ≤ 2; decide
theorem lens (x y : Str) : (x ++ y).length = x.length + y.length := Str.length_append x y
theorem T.texts_len : ∀ (t : T) (n k : Nat), (t.texts n k).length = t.len
  | .nil, _, _ => rfl
  | .num _ _ r, n, k => by simp [T.texts, T.len, T.texts_len r]
  | .sub _ _ _ r, n, k => by simp [T.texts, T.len, T.texts_len r]
theorem T.len_le : ∀ t : T, t.len ≤ t.size
  | .nil => Nat.le_refl _
  | .num _ _ r => by have := r.len_le; simp [T.len, T.size]; omega
  | .sub _ _ _ r => by have := r.len_le; simp [T.len, T.size]; omega
theorem wrap_len (l : List Str) : (wrap l).length ≤ (l.map (·.length)).sum + l.length * 2 + 2 := by
  unfold wrap
  rw [lens, lens]
  have := StrLaws.join_length_le (Str.ofString ", ") l
  have e : (Str.ofString ", ").length = 2 := rfl
  have e1 : (Str.ofString "(").length = 1 := rfl
  have e2 : (Str.ofString ")").length = 1 := rfl
  rw [e] at this
  omega
theorem T.texts_sum : ∀ (t : T) (n k : Nat), t.ok → ((t.texts n k).map (·.length)).sum + 2 * t.len ≤ 30 * t.size
  | .nil, _, _, _ => Nat.le_refl _
  | .num x i r, n, k, h => by
    have h1 := T.texts_sum r n (k + 1) h.2.2
    have h2 := intText_small i h.2.1
    have h3 := starText_len (starsOf n k)
    have h4 := h.1.2
    have e : (Str.ofString "=").length = 1 := rfl
    simp only [T.texts, List.map_cons, List.sum_cons, T.len, T.size, lens, e]
    omega
  | .sub x j t r, n, k, h => by
    have h1 := T.texts_sum r n (k + 1) h.2.2.2
    have h2 := T.texts_sum t t.len 0 h.2.2.1
    have h3 := starText_len (starsOf n k)
    have h4 := h.1.2
    have h5 := wrap_len (t.texts t.len 0)
    have e : (Str.ofString "=").length = 1 := rfl
    rw [T.texts_len] at h5
    simp only [T.texts, List.map_cons, List.sum_cons, T.len, T.size, lens, e]
    omega
theorem T.text_len (t : T) (h : t.ok) : t.text.length ≤ 30 * t.size + 2 := by
  have h1 := T.texts_sum t t.len 0 h
  have h5 := wrap_len (t.texts t.len 0)
  rw [T.texts_len] at h5
  unfold T.text
  omega
/-- the names with their stars -/
noncomputable def starred (n : Nat) : List Str → Nat → List (Str × Str)
  | [], _ => []
  | x :: r, k => (starText (starsOf n k), x) :: starred n r (k + 1)
theorem starred_append (n : Nat) : ∀ (a b : List Str) (k : Nat), starred n (a ++ b) k = starred n a k ++ starred n b (k + a.length)
  | [], b, k => by simp [starred]
  | x :: r, b, k => by simp [starred, starred_append n r b (k + 1), Nat.add_assoc, Nat.add_comm 1]
theorem starred_plain (n : Nat) : ∀ (a : List Str) (k : Nat), (∀ i, i < a.length → starsOf n (k + i) = 0) → starred n a k = a.map fun x => (Str.ofString "", x)
  | [], _, _ => rfl
  | x :: r, k, h => by
    have h0 := h 0 (by simp)
    simp only [Nat.add_zero] at h0
    simp only [starred, h0, starText, List.map_cons]
    rw [starred_plain n r (k + 1) fun i hi => by have := h (i + 1) (by simpa using hi); rwa [show k + 1 + i = k + (i + 1) by omega]]
theorem fav0 {names : List Str} (h : names.length % 4 = 0) : favSpecs names none none = starred names.length names 0 := by
  rw [starred_plain]
  · simp [favSpecs]
  · intro i hi
    unfold starsOf
    rw [if_neg (by omega), if_neg (by omega)]
theorem fav1 {names : List Str} {x : Str} (h : (names.length + 1) % 4 = 1) : favSpecs names (some x) none = starred (names.length + 1) (names ++ [x]) 0 := by
  rw [starred_append, starred_plain]
  · simp only [favSpecs, starred]
    have : starsOf (names.length + 1) (0 + names.length) = 1 := by
      unfold starsOf
      rw [if_neg (by omega), if_pos (by omega)]
    rw [this]; simp [starText]
  · intro i hi
    unfold starsOf
    rw [if_neg (by omega), if_neg (by omega)]
theorem fav2 {names : List Str} {x : Str} (h : (names.length + 1) % 4 = 2) : favSpecs names none (some x) = starred (names.length + 1) (names ++ [x]) 0 := by
  rw [starred_append, starred_plain]
  · simp only [favSpecs, starred]
    have : starsOf (names.length + 1) (0 + names.length) = 2 := by
      unfold starsOf
      rw [if_pos (by omega)]
    rw [this]; simp [starText]
  · intro i hi
    unfold starsOf
    rw [if_neg (by omega), if_neg (by omega)]
theorem fav3 {names : List Str} {x y : Str} (h : (names.length + 2) % 4 = 3) : favSpecs names (some x) (some y) = starred (names.length + 2) (names ++ [x, y]) 0 := by
  rw [starred_append, starred_plain]
  · simp only [favSpecs, starred]
    have h1 : starsOf (names.length + 2) (0 + names.length) = 1 := by
      unfold starsOf
      rw [if_neg (by omega), if_pos (by omega)]
    have h2 : starsOf (names.length + 2) (0 + names.length + 1) = 2 := by
      unfold starsOf
      rw [if_pos (by omega)]
    rw [h1, h2]; simp [starText]
  · intro i hi
    unfold starsOf
    rw [if_neg (by omega), if_neg (by omega)]
/-- what a name tells -/
noncomputable def T.cell (lost : Str → Bool) : T → Str → Except Str Str
  | .nil, x => .error x
  | .num y i r, x => if y = x then (if lost x then .error x else .ok (Str.ofString "=" ++ Str.ofString (toString i))) else r.cell lost x
  | .sub y _ k r, x => if y = x then (if lost x then .error x else match k.miss lost with
      | some z => .error z
      | none => .ok (Str.ofString "=" ++ k.text)) else r.cell lost x
theorem specs_of (lost : Str → Bool) (c : Str → Except Str Str) (n : Nat) : ∀ (t : T) (k : Nat), t.names.Nodup → (∀ x ∈ t.names, c x = t.cell lost x) →
    specsOf c (starred n t.names k) = match t.miss lost with
      | some y => .error y
      | none => .ok (t.texts n k)
  | .nil, _, _, _ => rfl
  | .num x i r, k, hn, hc => by
    obtain ⟨hx, hn⟩ := List.nodup_cons.mp hn
    have h1 := specs_of lost c n r (k + 1) hn fun y hy => by
      rw [hc y (.tail _ hy)]
      simp only [T.cell]
      rw [if_neg fun e => hx (by rw [e]; exact hy)]
    have h0 := hc x (.head _)
    simp only [T.cell, if_true] at h0
    simp only [T.names, starred, specsOf, h0, h1, T.miss, T.texts]
    by_cases q : lost x = true
    · simp [q]
    · simp only [if_neg q]
      cases r.miss lost <;> rfl
  | .sub x j t r, k, hn, hc => by
    obtain ⟨hx, hn⟩ := List.nodup_cons.mp hn
    have h1 := specs_of lost c n r (k + 1) hn fun y hy => by
      rw [hc y (.tail _ hy)]
      simp only [T.cell]
      rw [if_neg fun e => hx (by rw [e]; exact hy)]
    have h0 := hc x (.head _)
    simp only [T.cell, if_true] at h0
    simp only [T.names, starred, specsOf, h0, h1, T.miss, T.texts]
    by_cases q : lost x = true
    · simp [q]
    · simp only [if_neg q]
      cases t.miss lost with
      | some z => rfl
      | none => cases r.miss lost <;> rfl
end Mine
end -- P2
section -- G1
open PySem PySem.W PyProof.Rows PySem.Calls PySem.Spec
set_option maxHeartbeats 8000000
namespace Mine
variable {w : World} {base : Heap} {p : Program} {loose : List Str} {mean : ExcName → Option Value} {mg mb : Str → Option Value}
local macro_rules | `(tactic| walk_at "call builtin:len cons nil") => `(tactic| refine Mine.Stop.mk ?_)
local macro_rules | `(tactic| walk_at "call builtin:list.pop cons nil") => `(tactic| refine Mine.Stop.mk ?_)
local macro_rules | `(tactic| walk_at "call ref") => `(tactic| ((with_reducible show wpAny _ _ (call (Value.ref 57) _ _) _ _ _); refine Mine.Stop.mk ?_))
local macro_rules | `(tactic| walk_at "unpackItems ref") => `(tactic| (k_here; (refine unpackItemsN_ (by k_asm) (by k_asm) (by kun_tup) (by assumption) (by rfl) ?_); intro h' F' N'; (try k_sweep)))
noncomputable def CellIs (ad : Nat → Addr) : Option Value → Option Cell → Prop
  | none, none => True
  | some v, some (.num i) => ∃ t, v = Value.int i t
  | some v, some (.sub j) => v = Value.ref (ad j)
  | _, _ => False
noncomputable def FrameIn (w : World) (ad : Nat → Addr) (lost : Str → Bool) (h : Heap) (i : Nat) (rows : Rows) : Prop :=
  ∃ nm d k vs f, h.get? (ad i) = some (W.listOf (List.toArray [Value.ref nm, Value.ref d]) k) ∧ h.IsList nm (List.toArray vs) ∧ StrsAre vs (rows.map (·.1)) ∧ (d == sysModules) = false ∧
    h.MapOf (strKind PySem.Challenge.pw_dw0016_01 w) d f ∧ ∀ x, CellIs ad (f x) (if lost x then none else rows.lookup x)
theorem isList_keeps {h h' : Heap} {l : Addr} {vs : Array Value} (x : h.IsList l vs) (k : h.StaysIn h') : h'.IsList l vs := x.at fun o e => k _ o e
theorem FrameIn.keeps {ad : Nat → Addr} {lost : Str → Bool} {h h' : Heap} {i : Nat} {rows : Rows} (x : FrameIn w ad lost h i rows) (k : h.StaysIn h') : FrameIn w ad lost h' i rows :=
  let ⟨nm, d, q, vs, f, a, b, c, e, g, r⟩ := x
  ⟨nm, d, q, vs, f, k _ _ a, isList_keeps b k, c, e, mapOf_keeps g k, r⟩
/-- the frames stand -/
noncomputable def Arena (w : World) (ad : Nat → Addr) (lost : Str → Bool) (n : Nat) (ar : Nat → Rows) (h : Heap) : Prop := ∀ i, i < n → FrameIn w ad lost h i (ar i)
theorem Arena.keeps {ad : Nat → Addr} {lost : Str → Bool} {n : Nat} {ar : Nat → Rows} {h h' : Heap} (x : Arena w ad lost n ar h) (k : h.StaysIn h') : Arena w ad lost n ar h' := fun i hi => (x i hi).keeps k
theorem valNum (bs : Base1 w base p loose mean mg mb) {i : Int} {ti : Tok} :
    Calls PySem.Challenge.pw_dw0016_01 w base [] 1 10 (fun _ => -500 ≤ i ∧ i < 500) (.ref 57) [.int i ti] [] (fun r _ => ∃ tk, r = Value.str (Str.ofString "=" ++ Str.ofString (toString i)) tk) (fun _ _ => False) := by
  refine' calls_K (K := hd1.heap_39 w.params) (binds := [(Str.ofString "value", .int i ti)]) ?hS bs.T.nolimit bs.K (by omega) ?ho ?hcd ?hbind ?hloc ?body ?hcell ?hco ?hgen ?hk
  case ho => k_is
  case hcd => k_is
  case hS => intro b hb; cases hb
  case hbind => exact fun s st => BindsTo.of_eq rfl
  case hloc => exact locs rfl
  case hcell => decide
  case hco => exact rfl
  case hgen => exact rfl
  case hk => exact rfl
  intro A fr s L h₁ hA hpre hh hroom hu ff hSf stg B F st₁ hL
  have X := bs.K.keeps stg
  have T := bs.T.keeps stg
  have N : News (hideAll s.heap []) L h₁ [] := News.nil
  obtain ⟨hp1, hp2⟩ := hpre
  k_steps
  exact Out.mk F.keep ⟨_, rfl⟩
local macro_rules | `(tactic| walk_at "call type:type") => `(tactic| refine Mine.Stop.mk ?_)
local macro_rules | `(tactic| walk_at "call ref") => `(tactic| (first | ((with_reducible show wpAny _ _ (call (Value.ref 50) _ _) _ _ _); refine Mine.Stop.mk ?_) | ((with_reducible show wpAny _ _ (call (Value.ref 43) _ _) _ _ _); refine Mine.Stop.mk ?_)))
theorem valSub (bs : Base1 w base p loose mean mg mb) {a : Addr} {x : Str} {c : Except Str Str} {Pr : Heap → Prop} {dv uv : Nat} (hPk : ∀ h h', Pr h → h.StaysIn h' → Pr h')
    (hPl : ∀ h, Pr h → ∃ vs, h.IsList a vs)
    (H : Calls PySem.Challenge.pw_dw0016_01 w base [] dv uv (fun h => Pr h ∧ Hit h) (.ref 50) [.ref a] [] (fun r h' => Hit h' ∧ ∃ t tk, c = .ok t ∧ t.length ≤ 9000 ∧ r = Value.str t tk) (fun y B => Hit B ∧ c = .error y)) :
    Calls PySem.Challenge.pw_dw0016_01 w base [] (dv + 1) (uv + 10) (fun h => Pr h ∧ Hit h) (.ref 57) [.ref a] []
      (fun r _ => ∃ t tk, c = .ok t ∧ t.length ≤ 9000 ∧ r = Value.str (Str.ofString "=" ++ t) tk) (fun y B => Hit B ∧ c = .error y) := by
  refine' calls_K (K := hd1.heap_39 w.params) (binds := [(Str.ofString "value", .ref a)]) ?hS bs.T.nolimit bs.K (by omega) ?ho ?hcd ?hbind ?hloc ?body ?hcell ?hco ?hgen ?hk
  case ho => k_is
  case hcd => k_is
  case hS => intro b hb; cases hb
  case hbind => exact fun s st => BindsTo.of_eq rfl
  case hloc => exact locs rfl
  case hcell => decide
  case hco => exact rfl
  case hgen => exact rfl
  case hk => exact rfl
  intro A fr s L h₁ hA hpre hh hroom hu ff hSf stg B F st₁ hL
  have X := bs.K.keeps stg
  have T := bs.T.keeps stg
  have N : News (hideAll s.heap []) L h₁ [] := News.nil
  obtain ⟨hpr, hhit⟩ := hpre
  obtain ⟨vs, hl⟩ := hPl _ hpr
  have hl₁ := isList_keeps hl st₁
  k_steps
  show wpAny _ _ (call _ _ _) _ _ _
  refine kto_cont (T := "list") (let ⟨o, a, b, _⟩ := hl₁; ⟨o, a, b⟩) (by decide) ?_
  k_steps
  show wpAny _ _ (call _ _ _) _ _ _
  refine use_calls H B F rfl rfl (fun b hb => nomatch hb) ⟨hPk _ _ hpr st₁, hhit.keeps st₁⟩ hh (by omega) (by omega) ?_ ?_
  · rintro r h₂ tk₂ k₂ ⟨hh₂, t, tc, hc, hcl, rfl⟩
    have st₂ : h₁.StaysIn h₂ := fun b o e => k₂ b o (fun m => nomatch m) e
    have F₂ := F.keeps st₂
    have N₂ : News (hideAll s.heap []) L h₂ [] := News.nil
    clear F N
    k_steps
    exact Out.mk F₂.keep ⟨t, _, hc, hcl, rfl⟩
  · intro y e h₂ tk₂ U
    refine up_leave (h := s.heap) hA rfl (Nat.le_of_eq hL.symm) (KeepBut.of_stays st₁) rfl U fun h'' U' => ?_
    exact ⟨y, e, h'', _, rfl, rfl, U'⟩
noncomputable def toldStmt : Stmt := nth PySem.Challenge.pw_dw0016_01.main.body 3
theorem strs_last {vs : List Value} {xs : List Str} (h : StrsAre vs xs) (hne : 0 < vs.length) : ∃ vs' xs' x t, vs = vs' ++ [Value.str x t] ∧ xs = xs' ++ [x] ∧ StrsAre vs' xs' := by
  have hx : xs ≠ [] := fun e => by rw [h.1, e] at hne; exact absurd hne (Nat.lt_irrefl _)
  have hv : vs ≠ [] := fun e => by rw [e] at hne; exact absurd hne (Nat.lt_irrefl _)
  have e1 := List.dropLast_concat_getLast hx
  have e2 := List.dropLast_concat_getLast hv
  have hl : xs.dropLast.length = vs.dropLast.length := by simp [h.1]
  have e3 : xs[xs.dropLast.length]? = some (xs.getLast hx) := by
    rw [List.length_dropLast, ← List.getLast?_eq_getElem?, List.getLast?_eq_some_getLast hx]
  have e4 : vs[vs.dropLast.length]? = some (vs.getLast hv) := by
    rw [List.length_dropLast, ← List.getLast?_eq_getElem?, List.getLast?_eq_some_getLast hv]
  obtain ⟨t, ht⟩ := h.2 xs.dropLast.length (xs.getLast hx) e3
  refine ⟨vs.dropLast, xs.dropLast, xs.getLast hx, t, ?_, e1.symm, hl.symm, fun i y hy => ?_⟩
  · rw [hl, e4, Option.some.injEq] at ht
    rw [← ht]; exact e2.symm
  · have hi : i < xs.dropLast.length := by
      rcases Nat.lt_or_ge i xs.dropLast.length with q | q
      · exact q
      · rw [List.getElem?_eq_none q] at hy; cases hy
    obtain ⟨u, hu⟩ := h.2 i y (by rw [← e1, List.getElem?_append_left hi]; exact hy)
    exact ⟨u, by rw [← e2, List.getElem?_append_left (by omega)] at hu; exact hu⟩
/-- the call of formatargvalues at the end of _law_told -/
theorem told_end (bs : Base1 w base p loose mean mg mb) {S : List Addr} (hSS : S = [] ∨ S = [38]) {D d : Addr} {c : Nat} {vs : List Value} {names args : List Str} {oa ok : Option Str} {va vk : Value} {f : Str → Option Value} {cell : Str → Except Str Str} {Pv : Value → Heap → Prop} {dv uv : Nat}
    {A : Around} {fr : List Env} {s s₂ : Shared} {L : Addr} {m : Str → Option Value} {news : List (Addr × Obj)} {env : Env}
    (hst : favSpecs args oa ok = starred names.length names 0) (hvs : StrsAre vs args) (hva : VarIs va oa) (hvk : VarIs vk ok) (hd : (d == sysModules) = false) (hlen : args.length ≤ 100) (hnl : ∀ x ∈ args, x.length ≤ 100)
    (hn : ∀ x, f x = none → cell x = .error x) (hmono : ∀ v h h', Pv v h → h.StaysIn h' → Pv v h')
    (hv : ∀ x v, f x = some v → Calls PySem.Challenge.pw_dw0016_01 w base [] dv uv (fun h => Pv v h ∧ Hit h) (.ref 57) [v] [] (fun r _ => ∃ c tk, cell x = .ok c ∧ c.length ≤ 10000 ∧ r = Value.str c tk) (fun y B => Hit B ∧ cell x = .error y))
    (hA : A.frames = some fr) (B : Below A base fr (hideAll s.heap S)) (F : Fr (hideAll s.heap S) L s₂.heap m) (N : News (hideAll s.heap S) L s₂.heap news) (hD : (D, W.listOf vs.toArray c) ∈ news)
    (hmap : (hideAll s.heap S).MapOf (strKind PySem.Challenge.pw_dw0016_01 w) d f) (hPv : ∀ x v, f x = some v → Pv v (hideAll s.heap S)) (hmode : (S = [] ∧ Hit s.heap) ∨ (S = [38] ∧ (38, tabObj #[]) ∈ news))
    (hL : L = s.heap.objs.size) (hh : A.handled = none) (hroom : A.depth + (dv + 5) < recursionLimit) (hu : A.units + (uv + 60) < cLine) (hSf : ∀ b ∈ S, b ∉ frs fr)
    (hs₂ : ∃ h tk, s₂ = { s with heap := h, toks := tk }) (hf : env.frame = some L) (hke : env.scope.kind = .function) :
    wpAny (model PySem.Challenge.pw_dw0016_01 w) (A.deeper env) (call (.ref 43) [.ref D, va, vk, .ref d] [(Str.ofString "formatvalue", .ref 57)])
      (fun v s' => Out s (hideAll s.heap S) (fun r h' => Hit h' ∧ ∃ l tk, specsOf cell (starred names.length names 0) = .ok l ∧ r = Value.str (wrap l) tk) v s')
      (fun e s' => wpAny (model PySem.Challenge.pw_dw0016_01 w) (A.deeper env) (leaving env e) (fun _ s'' => OutE s S (fun y h' => Hit h' ∧ specsOf cell (starred names.length names 0) = .error y) fr s.heap e s'') (fun e' s'' => OutE s S (fun y h' => Hit h' ∧ specsOf cell (starred names.length names 0) = .error y) fr s.heap e' s'') s') s₂ := by
  obtain ⟨h, tk, rfl⟩ := hs₂
  have hkeep : (hideAll s.heap S).StaysIn (hideAll h S) := fun b o e => by
    obtain ⟨_, q2⟩ := hide_some e
    exact hideAll_get _ (F.keep b o e) q2
  have hDn : D ∉ S := by
    rcases hSS with rfl | rfl
    · exact fun m => nomatch m
    · intro m
      rw [List.mem_singleton.mp m] at hD
      rcases hmode with ⟨q, _⟩ | ⟨_, q⟩
      · cases q
      · have := (N _ hD).1
        rw [show h.get? 38 = some (tabObj #[]) from (N _ q).1] at this
        cases this
  refine use_calls (fav bs hSS (names := args) hvs hva hvk hd hlen hnl hn hmono hv) B F hf hke ?_ ⟨⟨_, hideAll_get _ (N _ hD).1 hDn, rfl, _, rfl⟩, mapOf_keeps hmap hkeep, fun x v e => hmono _ _ _ (hPv x v e) hkeep, ?_⟩ hh (by omega) (by omega) ?_ ?_
  · intro b hb m
    rw [frs, List.filterMap_cons, hf] at m
    rcases List.mem_cons.mp m with q | m
    · subst q
      rcases hSS with rfl | rfl
      · cases hb
      · rcases hmode with ⟨q, _⟩ | ⟨_, q⟩
        · cases q
        · exact (N _ q).2.1 (List.mem_singleton.mp hb).symm
    · exact hSf b hb m
  · rcases hmode with ⟨q, q'⟩ | q
    · exact .inl ⟨q, q'.keeps (by subst q; exact F.keep)⟩
    · exact .inr ⟨q.1, (N _ q.2).1⟩
  · rintro r h₂ tk₂ k₂ ⟨hh₂, l, tc, hc, rfl⟩
    rw [hst] at hc
    refine Out.mk ?_ ⟨hh₂, l, tc, hc, rfl⟩
    intro b o e
    exact k₂ b o (hide_some e).2 (F.keep b o e)
  · intro y e h₂ tk₂ U
    rw [hst] at U
    refine up_leave (h := s.heap) hA hf (Nat.le_of_eq hL.symm) (KeepBut.of_hide F.keep) rfl U fun h'' U' => ?_
    exact ⟨y, e, h'', _, rfl, rfl, U'⟩
theorem told_body (bs : Base1 w base p loose mean mg mb) {S : List Addr} (hSS : S = [] ∨ S = [38]) {a nm d : Addr} {k : Nat} {vs : List Value} {names : List Str} {f : Str → Option Value} {cell : Str → Except Str Str} {Pv : Value → Heap → Prop} {dv uv : Nat}
    (hvs : StrsAre vs names) (hd : (d == sysModules) = false) (hlen : names.length ≤ 100) (hnl : ∀ x ∈ names, 0 < x.length ∧ x.length ≤ 100)
    (hn : ∀ x, f x = none → cell x = .error x) (hmono : ∀ v h h', Pv v h → h.StaysIn h' → Pv v h')
    (hv : ∀ x v, f x = some v → Calls PySem.Challenge.pw_dw0016_01 w base [] dv uv (fun h => Pv v h ∧ Hit h) (.ref 57) [v] [] (fun r _ => ∃ c tk, cell x = .ok c ∧ c.length ≤ 10000 ∧ r = Value.str c tk) (fun y B => Hit B ∧ cell x = .error y)) :
    Calls PySem.Challenge.pw_dw0016_01 w base S (dv + 5) (uv + 60) (fun h => (hideAll h S).get? a = some (W.listOf (List.toArray [Value.ref nm, Value.ref d]) k) ∧ (hideAll h S).IsList nm vs.toArray ∧ (hideAll h S).MapOf (strKind PySem.Challenge.pw_dw0016_01 w) d f ∧ (∀ x v, f x = some v → Pv v (hideAll h S)) ∧ ((S = [] ∧ Hit h) ∨ (S = [38] ∧ h.get? 38 = some (tabObj #[]))))
      (.ref 50) [.ref a] [] (fun r h' => Hit h' ∧ ∃ l tk, specsOf cell (starred names.length names 0) = .ok l ∧ r = Value.str (wrap l) tk) (fun y h' => Hit h' ∧ specsOf cell (starred names.length names 0) = .error y) := by
  refine' calls_K (K := hd1.heap_39 w.params) (binds := [(Str.ofString "frame", .ref a)]) ?hS bs.T.nolimit bs.K (by omega) ?ho ?hcd ?hbind ?hloc ?body ?hcell ?hco ?hgen ?hk
  case ho => k_is
  case hcd => k_is
  case hS => exact hSbase bs hSS
  case hbind => exact fun s st => BindsTo.of_eq rfl
  case hloc => exact locs rfl
  case hcell => decide
  case hco => exact rfl
  case hgen => exact rfl
  case hk => exact rfl
  intro A fr s L h₁ hA hpre hh hroom hu ff hSf stg B F st₁ hL
  obtain ⟨hfr, hnm, hmap, hPv, hmode⟩ := hpre
  have hfl : (hideAll s.heap S).IsList a (List.toArray [Value.ref nm, Value.ref d]) := ⟨_, hfr, rfl, _, rfl⟩
  have X := bs.K.keeps stg
  have T := bs.T.keeps stg
  obtain ⟨own, N, hmode⟩ : ∃ own, News (hideAll s.heap S) L h₁ own ∧ ((S = [] ∧ Hit s.heap) ∨ (S = [38] ∧ (38, tabObj #[]) ∈ own)) := by
    rcases hmode with q | ⟨rfl, q⟩
    · exact ⟨[], News.nil, .inl q⟩
    · refine ⟨[(38, tabObj #[])], fun z hz => ?_, .inr ⟨rfl, .head _⟩⟩
      rw [List.mem_singleton.mp hz]
      exact ⟨st₁ _ _ q, by rw [hL]; exact Nat.ne_of_lt (Heap.lt_size q), hideAll_none _ (.head _)⟩
  have hln : vs.length = names.length := hvs.1
  have g60 : vs.length < 2 ^ 60 := by omega
  have gz : vs.toArray.toList.length ≤ sizeLine := by simp [sizeLine_eq]; omega
  have hcase : vs.length % 4 = 0 ∨ vs.length % 4 = 1 ∨ vs.length % 4 = 2 ∨ vs.length % 4 = 3 := by omega
  rcases hcase with hw | hw | hw | hw
  · have gk : names.length % 4 = 0 := by omega
    have ga : names.length ≤ 100 := by omega
    have hw1 : (vs.length : Int).fmod 4 = 0 := by rw [Int.fmod_eq_emod_of_nonneg _ (by decide)]; omega
    have hw2 : ((vs.length : Int).fmod 4).fmod 2 = 0 := by rw [hw1]; rfl
    k_steps
    rename Fr _ _ _ _ => F'
    rename News _ _ _ _ => N'
    refine len_h0 hnm F' g60 ?_
    k_steps
    · exact absurd ‹((vs.length : Int).fmod 4).fmod 2 = 1› (by rw [hw2]; decide)
    rename Fr _ _ _ _ => F'
    rename News _ _ _ _ => N'
    rename ∀ q ∈ own, q.1 < _ => l1
    show wpAny _ _ (call _ _ _) _ _ _
    exact told_end (env := envOf (Str.ofString "_law_told") (stScope toldStmt) L 50 (Value.ref 49)) (S := S) (args := names) (oa := none) (ok := none) bs hSS (fav0 gk) hvs (.inl ⟨rfl, .inl rfl⟩) (.inl ⟨rfl, .inr ⟨_, rfl⟩⟩) hd ga (fun x hx => (hnl x hx).2) hn hmono hv hA B F' N' (.tail _ (.head _)) hmap hPv (hmode.imp id fun q => ⟨q.1, .tail _ (.tail _ q.2)⟩) hL hh hroom hu hSf ⟨_, _, rfl⟩ (by rfl) (by rfl)
  · have gk : names.length % 4 = 1 := by omega
    obtain ⟨vs', names', x, tx, hvq, hnq, hvs'⟩ := strs_last hvs (by omega)
    have hl' : names.length = names'.length + 1 := by simp [hnq]
    have hx := hnl x (by simp [hnq])
    have hnl' : ∀ y ∈ names', y.length ≤ 100 := fun y hy => (hnl y (by simp [hnq, hy])).2
    have ga : names'.length ≤ 100 := by omega
    have gk : (names'.length + 1) % 4 = 1 := by omega
    have hw1 : (vs.length : Int).fmod 4 = 1 := by rw [Int.fmod_eq_emod_of_nonneg _ (by decide)]; omega
    have hw2 : ((vs.length : Int).fmod 4).fmod 2 = 1 := by rw [hw1]; rfl
    k_steps
    rename Fr _ _ _ _ => F'
    rename News _ _ _ _ => N'
    refine len_h0 hnm F' g60 ?_
    k_steps
    rename Fr _ _ _ _ => F'
    rename News _ _ _ _ => N'
    rename ∀ q ∈ own, q.1 < _ => l1
    refine kl_pop F' N' (p := vs') (y := Value.str x tx) (by simpa [hvq] using kpa_last (Value.str x tx) vs') (Upd.tail (Nat.ne_of_gt ‹_ < _ ∧ AllLt _ own›.1) (Upd.head fun q hq => Nat.ne_of_lt (l1 q hq))) gz fun h₄ F' N' => ?_
    k_steps
    rename Fr _ _ _ _ => F'
    rename News _ _ _ _ => N'
    show wpAny _ _ (call _ _ _) _ _ _
    exact told_end (env := envOf (Str.ofString "_law_told") (stScope toldStmt) L 50 (Value.ref 49)) (S := S) (args := names') (oa := some x) (ok := none) bs hSS (by rw [fav1 gk, hl', hnq]) hvs' (.inr ⟨x, tx, rfl, rfl, hx.1, hx.2⟩) (.inl ⟨rfl, .inr ⟨_, rfl⟩⟩) hd ga (hnl') hn hmono hv hA B F' N' (.tail _ (.head _)) hmap hPv (hmode.imp id fun q => ⟨q.1, .tail _ (.tail _ q.2)⟩) hL hh hroom hu hSf ⟨_, _, rfl⟩ (by rfl) (by rfl)
    exact absurd hw2 ‹¬ ((vs.length : Int).fmod 4).fmod 2 = 1›
  · have gk : names.length % 4 = 2 := by omega
    obtain ⟨vs', names', x, tx, hvq, hnq, hvs'⟩ := strs_last hvs (by omega)
    have hl' : names.length = names'.length + 1 := by simp [hnq]
    have hx := hnl x (by simp [hnq])
    have hnl' : ∀ y ∈ names', y.length ≤ 100 := fun y hy => (hnl y (by simp [hnq, hy])).2
    have ga : names'.length ≤ 100 := by omega
    have gk : (names'.length + 1) % 4 = 2 := by omega
    have hw1 : (vs.length : Int).fmod 4 = 2 := by rw [Int.fmod_eq_emod_of_nonneg _ (by decide)]; omega
    have hw2 : ((vs.length : Int).fmod 4).fmod 2 = 0 := by rw [hw1]; rfl
    k_steps
    rename Fr _ _ _ _ => F'
    rename News _ _ _ _ => N'
    refine len_h0 hnm F' g60 ?_
    k_steps
    rename Fr _ _ _ _ => F'
    rename News _ _ _ _ => N'
    rename ∀ q ∈ own, q.1 < _ => l1
    refine kl_pop F' N' (p := vs') (y := Value.str x tx) (by simpa [hvq] using kpa_last (Value.str x tx) vs') (Upd.tail (Nat.ne_of_gt ‹_ < _ ∧ AllLt _ own›.1) (Upd.head fun q hq => Nat.ne_of_lt (l1 q hq))) gz fun h₄ F' N' => ?_
    k_steps
    · exact absurd ‹((vs.length : Int).fmod 4).fmod 2 = 1› (by rw [hw2]; decide)
    rename Fr _ _ _ _ => F'
    rename News _ _ _ _ => N'
    show wpAny _ _ (call _ _ _) _ _ _
    exact told_end (env := envOf (Str.ofString "_law_told") (stScope toldStmt) L 50 (Value.ref 49)) (S := S) (args := names') (oa := none) (ok := some x) bs hSS (by rw [fav2 gk, hl', hnq]) hvs' (.inl ⟨rfl, .inl rfl⟩) (.inr ⟨x, tx, rfl, rfl, hx.1, hx.2⟩) hd ga (hnl') hn hmono hv hA B F' N' (.tail _ (.head _)) hmap hPv (hmode.imp id fun q => ⟨q.1, .tail _ (.tail _ q.2)⟩) hL hh hroom hu hSf ⟨_, _, rfl⟩ (by rfl) (by rfl)
  · have gk : names.length % 4 = 3 := by omega
    obtain ⟨vs', names', x, tx, hvq, hnq, hvs'⟩ := strs_last hvs (by omega)
    have hl' : names.length = names'.length + 1 := by simp [hnq]
    have hx := hnl x (by simp [hnq])
    have hnl' : ∀ y ∈ names', 0 < y.length ∧ y.length ≤ 100 := fun y hy => hnl y (by simp [hnq, hy])
    have hln' : vs'.length = names'.length := hvs'.1
    obtain ⟨vs'', names'', y, ty, hvq', hnq', hvs''⟩ := strs_last hvs' (by omega)
    have hl'' : names'.length = names''.length + 1 := by simp [hnq']
    have hy := hnl' y (by simp [hnq'])
    have hnl'' : ∀ z ∈ names'', z.length ≤ 100 := fun z hz => (hnl' z (by simp [hnq', hz])).2
    have hln'' : vs''.length = names''.length := hvs''.1
    have ga : names''.length ≤ 100 := by omega
    replace gk : (names''.length + 2) % 4 = 3 := by omega
    have gz' : vs'.toArray.toList.length ≤ sizeLine := by simp [sizeLine_eq]; omega
    have hw1 : (vs.length : Int).fmod 4 = 3 := by rw [Int.fmod_eq_emod_of_nonneg _ (by decide)]; omega
    have hw2 : ((vs.length : Int).fmod 4).fmod 2 = 1 := by rw [hw1]; rfl
    k_steps
    rename Fr _ _ _ _ => F'
    rename News _ _ _ _ => N'
    refine len_h0 hnm F' g60 ?_
    k_steps
    rename Fr _ _ _ _ => F'
    rename News _ _ _ _ => N'
    rename ∀ q ∈ own, q.1 < _ => l1
    refine kl_pop F' N' (p := vs') (y := Value.str x tx) (by simpa [hvq] using kpa_last (Value.str x tx) vs') (Upd.tail (Nat.ne_of_gt ‹_ < _ ∧ AllLt _ own›.1) (Upd.head fun q hq => Nat.ne_of_lt (l1 q hq))) gz fun h₄ F' N' => ?_
    k_steps
    rename Fr _ _ _ _ => F'
    rename News _ _ _ _ => N'
    refine kl_pop F' N' (p := vs'') (y := Value.str y ty) (by simpa [hvq'] using kpa_last (Value.str y ty) vs'') (Upd.tail (Nat.ne_of_gt ‹_ < _ ∧ AllLt _ own›.1) (Upd.head fun q hq => Nat.ne_of_lt (l1 q hq))) gz' fun h₄ F' N' => ?_
    k_steps
    rename Fr _ _ _ _ => F'
    rename News _ _ _ _ => N'
    show wpAny _ _ (call _ _ _) _ _ _
    exact told_end (env := envOf (Str.ofString "_law_told") (stScope toldStmt) L 50 (Value.ref 49)) (S := S) (args := names'') (oa := some y) (ok := some x) bs hSS (by rw [fav3 gk, hl', hl'', hnq, hnq', List.append_assoc]; rfl) hvs'' (.inr ⟨y, ty, rfl, rfl, hy.1, hy.2⟩) (.inr ⟨x, tx, rfl, rfl, hx.1, hx.2⟩) hd ga (hnl'') hn hmono hv hA B F' N' (.tail _ (.head _)) hmap hPv (hmode.imp id fun q => ⟨q.1, .tail _ (.tail _ q.2)⟩) hL hh hroom hu hSf ⟨_, _, rfl⟩ (by rfl) (by rfl)
    exact absurd hw2 ‹¬ ((vs.length : Int).fmod 4).fmod 2 = 1›
end Mine
end -- G1
section -- G2
open PySem PySem.W PyProof.Rows PySem.Calls PySem.Spec
namespace Mine
variable {w : World} {base : Heap} {p : Program} {loose : List Str} {mean : ExcName → Option Value} {mg mb : Str → Option Value}
theorem Calls.weak {prog : Program} {S : List Addr} {dn un dn' un' : Nat} {Pre Pre' : Heap → Prop} {f : Value} {pos : List Value} {kw : List (Str × Value)} {Ok Ok' : Value → Heap → Prop} {Er Er' : Str → Heap → Prop}
    (H : Calls prog w base S dn un Pre f pos kw Ok Er) (hd : dn ≤ dn') (hu : un ≤ un') (hp : ∀ h, Pre' h → Pre h) (ho : ∀ v h, Ok v h → Ok' v h) (he : ∀ y h, Er y h → Er' y h) : Calls prog w base S dn' un' Pre' f pos kw Ok' Er' := by
  intro A fr s Q E hA st ff hSf hpre hh hroom hun hQ hE
  exact H A fr s Q E hA st ff hSf (hp _ hpre) hh (by omega) (by omega) (fun v h' tk' k o => hQ v h' tk' k (ho _ _ o)) fun x e h' tk' U => hE x e h' tk' (U.more (fun _ m => m) (he x))
theorem cell_none {ar : Nat → Rows} {lost : Str → Bool} {r : Rows} {t : T} (h : Spells ar r t) {x : Str} (hx : (if lost x then none else r.lookup x) = none) : t.cell lost x = .error x := by
  induction h with
  | nil => rfl
  | @num y i r t h ih =>
    simp only [T.cell]
    by_cases e : y = x
    · subst e
      by_cases q : lost y = true
      · simp [q]
      · simp [q] at hx
    · rw [if_neg e]
      refine ih ?_
      rw [List.lookup_cons, beq_eq_false_iff_ne.mpr (Ne.symm e)] at hx
      exact hx
  | @sub y j r k t h1 h2 ih1 ih =>
    simp only [T.cell]
    by_cases e : y = x
    · subst e
      by_cases q : lost y = true
      · simp [q]
      · simp [q] at hx
    · rw [if_neg e]
      refine ih ?_
      rw [List.lookup_cons, beq_eq_false_iff_ne.mpr (Ne.symm e)] at hx
      exact hx
theorem cell_num {ar : Nat → Rows} {lost : Str → Bool} {r : Rows} {t : T} (h : Spells ar r t) (hok : t.ok) {x : Str} {i : Int} (hx : (if lost x then none else r.lookup x) = some (.num i)) :
    t.cell lost x = .ok (Str.ofString "=" ++ Str.ofString (toString i)) ∧ -500 ≤ i ∧ i < 500 := by
  have hq : lost x = false := by
    cases q : lost x with
    | false => rfl
    | true => rw [q] at hx; cases hx
  rw [hq] at hx
  simp only [Bool.false_eq_true, if_false] at hx
  induction h with
  | nil => cases hx
  | @num y j r t h ih =>
    simp only [T.cell]
    by_cases e : y = x
    · subst e
      simp at hx
      subst hx
      simp [hq]
      exact hok.2.1
    · rw [if_neg e]
      refine ih hok.2.2 ?_
      rw [List.lookup_cons, beq_eq_false_iff_ne.mpr (Ne.symm e)] at hx
      exact hx
  | @sub y j r k t h1 h2 ih1 ih =>
    simp only [T.cell]
    by_cases e : y = x
    · subst e
      simp at hx
    · rw [if_neg e]
      refine ih hok.2.2.2 ?_
      rw [List.lookup_cons, beq_eq_false_iff_ne.mpr (Ne.symm e)] at hx
      exact hx
theorem cell_sub {ar : Nat → Rows} {lost : Str → Bool} {r : Rows} {t : T} (h : Spells ar r t) (hok : t.ok) {x : Str} {j : Nat} (hx : (if lost x then none else r.lookup x) = some (.sub j)) :
    ∃ k, Spells ar (ar j) k ∧ k.size < t.size ∧ k.ok ∧ k.names.Nodup ∧ j ∈ t.ids ∧ (∀ i ∈ k.ids, i ∈ t.ids) ∧ t.cell lost x = match k.miss lost with
      | some z => .error z
      | none => .ok (Str.ofString "=" ++ k.text) := by
  have hq : lost x = false := by
    cases q : lost x with
    | false => rfl
    | true => rw [q] at hx; cases hx
  rw [hq] at hx
  simp only [Bool.false_eq_true, if_false] at hx
  induction h with
  | nil => cases hx
  | @num y i r t h ih =>
    simp only [T.cell]
    by_cases e : y = x
    · subst e
      simp at hx
    · rw [if_neg e]
      rw [List.lookup_cons, beq_eq_false_iff_ne.mpr (Ne.symm e)] at hx
      obtain ⟨k, a, b, c, d, f, g, i⟩ := ih hok.2.2 hx
      exact ⟨k, a, by simp [T.size]; omega, c, d, f, g, i⟩
  | @sub y i r k t h1 h2 ih1 ih =>
    simp only [T.cell]
    by_cases e : y = x
    · subst e
      simp at hx
      subst hx
      exact ⟨k, h1, by simp [T.size]; omega, hok.2.2.1, hok.2.1, by simp [T.ids], fun z hz => by simp [T.ids, hz], by first | (simp [hq]; done) | (simp [hq]; cases T.miss lost k <;> rfl)⟩
    · rw [if_neg e]
      rw [List.lookup_cons, beq_eq_false_iff_ne.mpr (Ne.symm e)] at hx
      obtain ⟨k, a, b, c, d, f, g, i⟩ := ih hok.2.2.2 hx
      exact ⟨k, a, by simp [T.size]; omega, c, d, by simp [T.ids, f], fun z hz => by simp [T.ids, g z hz], i⟩
theorem ok_names : ∀ {t : T}, t.ok → ∀ x ∈ t.names, 0 < x.length ∧ x.length ≤ 10
  | .nil, _, _, h => nomatch h
  | .num y _ r, h, x, hx => by
    rcases List.mem_cons.mp hx with rfl | hx
    · exact h.1
    · exact ok_names h.2.2 x hx
  | .sub y _ k r, h, x, hx => by
    rcases List.mem_cons.mp hx with rfl | hx
    · exact h.1
    · exact ok_names h.2.2.2 x hx
/-- the frames, told: the whole recursion -/
theorem toldT (bs : Base1 w base p loose mean mg mb) {ad : Nat → Addr} {lost : Str → Bool} {n : Nat} {ar : Nat → Rows} : ∀ (m : Nat) (t : T) (i : Nat) (S : List Addr), t.size ≤ m → t.size ≤ 100 → i < n → Spells ar (ar i) t → t.ok → t.names.Nodup → (∀ j ∈ t.ids, j < n) → (S = [] ∨ S = [38]) →
    Calls PySem.Challenge.pw_dw0016_01 w base S (6 * m + 6) (71 * m + 71) (fun h => Arena w ad lost n ar (hideAll h S) ∧ ((S = [] ∧ Hit h) ∨ (S = [38] ∧ h.get? 38 = some (tabObj #[])))) (.ref 50) [.ref (ad i)] []
      (fun r h' => Hit h' ∧ ∃ tk, t.miss lost = none ∧ r = Value.str t.text tk) (fun y B => Hit B ∧ t.miss lost = some y) := by
  intro m
  induction m with
  | zero =>
    intro t i S hm h100 hi hsp hok hnd hids hSS
    have ht : t = .nil := by cases t <;> first | rfl | (simp [T.size] at hm)
    subst ht
    intro A fr s Q E hA st ff hSf hpre
    obtain ⟨nm, d, k, vs, f, a1, a2, a3, a4, a5, a6⟩ := hpre.1 i hi
    rw [hsp.names] at a3
    have hnone : ∀ x, f x = none := fun x => by
      have h1 := a6 x
      cases hsp' : ar i with
      | cons _ _ => rw [hsp'] at hsp; cases hsp
      | nil =>
        rw [hsp'] at h1
        cases q : f x with
        | none => rfl
        | some v => rw [q] at h1; simp [List.lookup, CellIs] at h1
    have H := told_body bs hSS (a := ad i) (k := k) (nm := nm) (f := f) (dv := 0) (uv := 0) (cell := T.nil.cell lost) (Pv := fun _ _ => True) a3 a4 (by simp [T.names]) (fun x hx => nomatch hx) (fun x _ => rfl) (fun _ _ _ _ _ => trivial) (fun x v hx => by rw [hnone x] at hx; cases hx)
    have H' := H.weak (Pre' := fun h => ((hideAll h S).get? (ad i) = some (W.listOf (List.toArray [Value.ref nm, Value.ref d]) k) ∧ (hideAll h S).IsList nm vs.toArray ∧ (hideAll h S).MapOf (strKind PySem.Challenge.pw_dw0016_01 w) d f ∧ (∀ x v, f x = some v → True) ∧ ((S = [] ∧ Hit h) ∨ (S = [38] ∧ h.get? 38 = some (tabObj #[])))))
      (dn' := 6 * 0 + 6) (un' := 71 * 0 + 71) (Ok' := fun r h' => Hit h' ∧ ∃ tk, T.nil.miss lost = none ∧ r = Value.str T.nil.text tk) (Er' := fun y B => Hit B ∧ T.nil.miss lost = some y) (by omega) (by omega) (fun h x => x)
      (fun v h o => by
        obtain ⟨o1, l, tk, o2, rfl⟩ := o
        have : l = [] := by simpa [T.names, starred, specsOf] using o2.symm
        subst this
        exact ⟨o1, tk, rfl, rfl⟩)
      (fun y h o => by
        obtain ⟨_, o2⟩ := o
        simp [T.names, starred, specsOf] at o2)
    exact H' A fr s Q E hA st ff hSf ⟨a1, a2, a5, fun _ _ _ => trivial, hpre.2⟩
  | succ m ih =>
    intro t i S hm h100 hi hsp hok hnd hids hSS
    intro A fr s Q E hA st ff hSf hpre
    obtain ⟨nm, d, k, vs, f, a1, a2, a3, a4, a5, a6⟩ := hpre.1 i hi
    rw [hsp.names] at a3
    have H := told_body bs hSS (a := ad i) (k := k) (nm := nm) (f := f) (dv := 6 * m + 7) (uv := 71 * m + 81) (cell := t.cell lost) (Pv := fun v h => Arena w ad lost n ar h) a3 a4 (by rw [T.names_length]; have := t.len_le; omega) (fun x hx => by have := ok_names hok x hx; omega)
      (fun x hx => by
        have h1 := a6 x
        rw [hx] at h1
        refine cell_none hsp ?_
        cases q : (if lost x = true then none else (ar i).lookup x) with
        | none => rfl
        | some c => rw [q] at h1; cases c <;> cases h1)
      (fun _ _ _ a b => a.keeps b)
      (fun x v hx => by
        have h1 := a6 x
        rw [hx] at h1
        cases q : (if lost x = true then none else (ar i).lookup x) with
        | none => rw [q] at h1; cases h1
        | some c =>
          rw [q] at h1
          cases c with
          | num j =>
            obtain ⟨tj, rfl⟩ := h1
            obtain ⟨e1, e2⟩ := cell_num hsp hok q
            refine (valNum bs (i := j) (ti := tj)).weak (by omega) (by omega) (fun _ _ => e2) (fun v h o => ?_) (fun _ _ o => o.elim)
            obtain ⟨tk, rfl⟩ := o
            exact ⟨_, tk, e1, by have := intText_small j e2; rw [lens]; have e : (Str.ofString "=").length = 1 := rfl; omega, rfl⟩
          | sub j =>
            have hvj : v = Value.ref (ad j) := h1
            subst hvj
            obtain ⟨kt, b1, b2, b3, b4, b5, b6, b7⟩ := cell_sub hsp hok q
            have IH := ih kt j [] (by omega) (by omega) (hids j b5) b1 b3 b4 (fun z hz => hids z (b6 z hz)) (.inl rfl)
            have hlen := T.text_len kt b3
            have V := valSub bs (a := ad j) (x := x) (c := match kt.miss lost with | some z => Except.error z | none => .ok kt.text) (Pr := Arena w ad lost n ar) (dv := 6 * m + 6) (uv := 71 * m + 71) (fun _ _ a b => a.keeps b) (fun h a => by
                obtain ⟨nm, d, k, vs, f, a1, _⟩ := a j (hids j b5)
                exact ⟨_, _, a1, rfl, _, rfl⟩)
              (IH.weak (Nat.le_refl _) (Nat.le_refl _) (fun h o => ⟨o.1, .inl ⟨rfl, o.2⟩⟩) (fun v h o => by
                obtain ⟨o1, tk, o2, rfl⟩ := o
                exact ⟨o1, kt.text, tk, by rw [o2], by omega, rfl⟩) (fun y h o => ⟨o.1, by rw [o.2]⟩))
            refine V.weak (by omega) (by omega) (fun _ o => o) (fun v h o => ?_) (fun y h o => ⟨o.1, ?_⟩)
            · obtain ⟨t', tk, o1, o2, rfl⟩ := o
              refine ⟨Str.ofString "=" ++ t', tk, ?_, ?_, rfl⟩
              · rw [b7]
                cases hm : kt.miss lost with
                | some z => rw [hm] at o1; cases o1
                | none => rw [hm] at o1; cases o1; rfl
              · rw [lens]; have e : (Str.ofString "=").length = 1 := rfl; omega
            · rw [b7]
              have o1 := o.2
              cases hm : kt.miss lost with
              | some z => rw [hm] at o1; exact o1
              | none => rw [hm] at o1; cases o1)
    have hspec := specs_of lost (t.cell lost) t.names.length t 0 hnd (fun _ _ => rfl)
    have H' := H.weak (Pre' := fun h => ((hideAll h S).get? (ad i) = some (W.listOf (List.toArray [Value.ref nm, Value.ref d]) k) ∧ (hideAll h S).IsList nm vs.toArray ∧ (hideAll h S).MapOf (strKind PySem.Challenge.pw_dw0016_01 w) d f ∧ (∀ x v, f x = some v → Arena w ad lost n ar (hideAll h S)) ∧ ((S = [] ∧ Hit h) ∨ (S = [38] ∧ h.get? 38 = some (tabObj #[])))))
      (dn' := 6 * (m + 1) + 6) (un' := 71 * (m + 1) + 71) (Ok' := fun r h' => Hit h' ∧ ∃ tk, t.miss lost = none ∧ r = Value.str t.text tk) (Er' := fun y B => Hit B ∧ t.miss lost = some y) (by omega) (by omega) (fun h x => x)
      (fun v h o => by
        obtain ⟨o1, l, tk, o2, rfl⟩ := o
        rw [hspec] at o2
        cases hm : t.miss lost with
        | some z => rw [hm] at o2; cases o2
        | none =>
          rw [hm] at o2
          cases o2
          exact ⟨o1, tk, rfl, by rw [T.text, T.names_length]⟩)
      (fun y h o => by
        obtain ⟨o1, o2⟩ := o
        rw [hspec] at o2
        cases hm : t.miss lost with
        | some z => rw [hm] at o2; cases o2; exact ⟨o1, rfl⟩
        | none => rw [hm] at o2; cases o2)
    exact H' A fr s Q E hA st ff hSf ⟨a1, a2, a5, fun _ _ _ => hpre.1, hpre.2⟩
end Mine
end -- G2
section -- H1
open PySem PySem.W PyProof.Rows PySem.Calls PySem.Spec
namespace Mine
noncomputable def upd (m : Str → Option Value) (x : Str) (v : Option Value) : Str → Option Value := fun y => if y = x then v else m y
noncomputable def HoldsAll (fz : List (Addr × Obj)) (h : Heap) : Prop := ∀ q ∈ fz, h.get? q.1 = some q.2
noncomputable def Via (fz : List (Addr × Obj)) (v : Value) (d : PyData) : Prop := ∀ h, HoldsAll fz h → ∃ as, Reads h v d as
noncomputable def ViaAll (fz : List (Addr × Obj)) (vs : List Value) (ds : List PyData) : Prop := ∀ h, HoldsAll fz h → ∃ as, ReadsAll h vs ds as
theorem due_at {ar : Nat → Rows} {r : Rows} {t : T} (h : Spells ar r t) (hok : t.ok) (hn : t.names.Nodup) : ∀ (k : Nat) (x : Str), t.names[k]? = some x →
    (∃ i, r.lookup x = some (.num i) ∧ ∀ n k₀, (t.due n k₀)[k]? = some (PyData.tuple [.str (starText (starsOf n (k₀ + k)) ++ x), .int i])) ∨
    (∃ j c, r.lookup x = some (.sub j) ∧ Spells ar (ar j) c ∧ c.size < t.size ∧ c.ok ∧ c.names.Nodup ∧ j ∈ t.ids ∧ (∀ i ∈ c.ids, i ∈ t.ids) ∧ ∀ n k₀, (t.due n k₀)[k]? = some (PyData.tuple [.str (starText (starsOf n (k₀ + k)) ++ x), c.dueD])) := by
  induction h with
  | nil => intro k x hx; simp [T.names] at hx
  | @num y i r t h ih =>
    obtain ⟨hy, hn⟩ := List.nodup_cons.mp hn
    intro k x hx
    cases k with
    | zero =>
      simp only [T.names, List.getElem?_cons_zero, Option.some.injEq] at hx
      subst hx
      exact .inl ⟨i, by simp, fun n k₀ => by simp [T.due]⟩
    | succ k =>
      simp only [T.names, List.getElem?_cons_succ] at hx
      have hne : x ≠ y := fun e => hy (e ▸ List.mem_of_getElem? hx)
      rcases ih hok.2.2 hn k x hx with ⟨i', a, b⟩ | ⟨j, c, a, b⟩
      · refine .inl ⟨i', ?_, fun n k₀ => ?_⟩
        · rw [List.lookup_cons, beq_eq_false_iff_ne.mpr hne]; exact a
        · simp only [T.due, List.getElem?_cons_succ]; rw [b n (k₀ + 1), show k₀ + 1 + k = k₀ + (k + 1) by omega]
      · obtain ⟨b1, b2, b3, b4, b5, b6, b7⟩ := b
        refine .inr ⟨j, c, ?_, b1, by simp [T.size]; omega, b3, b4, b5, b6, fun n k₀ => ?_⟩
        · rw [List.lookup_cons, beq_eq_false_iff_ne.mpr hne]; exact a
        · simp only [T.due, List.getElem?_cons_succ]; rw [b7 n (k₀ + 1), show k₀ + 1 + k = k₀ + (k + 1) by omega]
  | @sub y i r c₀ t h1 h2 ih1 ih =>
    obtain ⟨hy, hn⟩ := List.nodup_cons.mp hn
    intro k x hx
    cases k with
    | zero =>
      simp only [T.names, List.getElem?_cons_zero, Option.some.injEq] at hx
      subst hx
      exact .inr ⟨i, c₀, by simp, h1, by simp [T.size]; omega, hok.2.2.1, hok.2.1, by simp [T.ids], fun z hz => by simp [T.ids, hz], fun n k₀ => by simp [T.due, T.dueD]⟩
    | succ k =>
      simp only [T.names, List.getElem?_cons_succ] at hx
      have hne : x ≠ y := fun e => hy (e ▸ List.mem_of_getElem? hx)
      rcases ih hok.2.2.2 hn k x hx with ⟨i', a, b⟩ | ⟨j, c, a, b⟩
      · refine .inl ⟨i', ?_, fun n k₀ => ?_⟩
        · rw [List.lookup_cons, beq_eq_false_iff_ne.mpr hne]; exact a
        · simp only [T.due, List.getElem?_cons_succ]; rw [b n (k₀ + 1), show k₀ + 1 + k = k₀ + (k + 1) by omega]
      · obtain ⟨b1, b2, b3, b4, b5, b6, b7⟩ := b
        refine .inr ⟨j, c, ?_, b1, by simp [T.size]; omega, b3, b4, by simp [T.ids, b5], fun z hz => by simp [T.ids, b6 z hz], fun n k₀ => ?_⟩
        · rw [List.lookup_cons, beq_eq_false_iff_ne.mpr hne]; exact a
        · simp only [T.due, List.getElem?_cons_succ]; rw [b7 n (k₀ + 1), show k₀ + 1 + k = k₀ + (k + 1) by omega]
theorem T.due_len : ∀ (t : T) (n k : Nat), (t.due n k).length = t.len
  | .nil, _, _ => rfl
  | .num _ _ r, n, k => by simp [T.due, T.len, T.due_len r]
  | .sub _ _ _ r, n, k => by simp [T.due, T.len, T.due_len r]
theorem news_sub {h₀ h : Heap} {L : Addr} {a b : List (Addr × Obj)} (N : News h₀ L h a) (hs : ∀ z ∈ b, z ∈ a) : News h₀ L h b := fun z hz => N z (hs z hz)
theorem news_swap {h₀ h : Heap} {L : Addr} {a b : Addr × Obj} {r : List (Addr × Obj)} (N : News h₀ L h (a :: b :: r)) : News h₀ L h (b :: a :: r) := news_sub N fun z hz => by
  rcases List.mem_cons.mp hz with rfl | hz
  · exact .tail _ (.head _)
  · rcases List.mem_cons.mp hz with rfl | hz
    · exact .head _
    · exact .tail _ (.tail _ hz)
noncomputable def StPost (x : Str) (v : Tok → Value) (s : Shared) (h₀ : Heap) (L : Addr) (m : Str → Option Value) (news : List (Addr × Obj)) (fl : Flow) (s' : Shared) : Prop :=
  fl = .next ∧ ∃ h' tk' t, s' = { s with heap := h', toks := tk' } ∧ Fr h₀ L h' (fun y => if y = x then some (v t) else m y) ∧ News h₀ L h' news
theorem store_cut {M : Model} {A : Around} {E : Value → Shared → Prop} {t : Sem Flow} {Q : Flow → Shared → Prop} {s₁ : Shared} {h₀ : Heap} {L : Addr} {m : Str → Option Value} {news : List (Addr × Obj)} {h : Heap} (x : Str) (v : Tok → Value) (s : Shared)
    (_F : Fr h₀ L h m) (_N : News h₀ L h news) (body : wpAny M A t (StPost x v s h₀ L m news) E s₁)
    (rest : ∀ h' tk' t, Fr h₀ L h' (fun y => if y = x then some (v t) else m y) → News h₀ L h' news → Q .next { s with heap := h', toks := tk' }) : wpAny M A t Q E s₁ :=
  wpAny_mono body (fun fl s' o => by
    obtain ⟨rfl, h', tk', t, rfl, F', N'⟩ := o
    exact rest h' tk' t F' N') fun _ _ e => e
theorem st_post {x : Str} {j k : Int} {s : Shared} {h₀ h' : Heap} {L : Addr} {m : Str → Option Value} {news : List (Addr × Obj)} {t : Tok} {tk' : Nat} (e : j = k) (F : Fr h₀ L h' (fun y => if y = x then some (Value.int k t) else m y)) (N : News h₀ L h' news) :
    StPost x (fun t => Value.int j t) s h₀ L m news .next { s with heap := h', toks := tk' } := ⟨rfl, h', tk', t, rfl, e ▸ F, N⟩
theorem readsAll_append {h : Heap} : ∀ {a b : List Value} {xs ys : List PyData} {as bs : List Addr}, ReadsAll h a xs as → ReadsAll h b ys bs → ∃ cs, ReadsAll h (a ++ b) (xs ++ ys) cs
  | [], _, _, _, _, _, .nil, r => ⟨_, r⟩
  | _ :: _, _, _, _, _, _, .cons x r, r' => let ⟨_, z⟩ := readsAll_append r r'; ⟨_, .cons x z⟩
theorem ViaAll.snoc {fz fz' : List (Addr × Obj)} {vs : List Value} {ds : List PyData} {v : Value} {d : PyData} (a : ViaAll fz vs ds) (b : Via fz' v d) (hs : ∀ z ∈ fz, z ∈ fz') : ViaAll fz' (vs ++ [v]) (ds ++ [d]) := fun h hh =>
  let ⟨_, r⟩ := a h fun q hq => hh q (hs q hq)
  let ⟨_, r'⟩ := b h hh
  readsAll_append r (.cons r' .nil)
theorem Via.pair {fz : List (Addr × Obj)} {T : Addr} {x : Str} {t : Tok} {v : Value} {d : PyData} {n : Nat} (b : Via fz v d) (hm : (T, (⟨.type "tuple", none, .seq #[.str x t, v] n, #[]⟩ : Obj)) ∈ fz) : Via fz (.ref T) (.tuple [.str x, d]) := fun h hh =>
  let ⟨_, r⟩ := b h hh
  ⟨_, .tuple (hh _ hm) rfl rfl (.cons (.str x t) (.cons r .nil))⟩
theorem Via.int (fz : List (Addr × Obj)) (i : Int) (t : Tok) : Via fz (.int i t) (.int i) := fun _ _ => ⟨_, .int i t⟩
theorem Via.more {fz fz' : List (Addr × Obj)} {v : Value} {d : PyData} (b : Via fz v d) (hs : ∀ z ∈ fz, z ∈ fz') : Via fz' v d := fun h hh => b h fun q hq => hh q (hs q hq)
theorem Via.list {fz fz' : List (Addr × Obj)} {l : Addr} {vs : List Value} {k : Nat} {ds : List PyData} (b : ViaAll fz vs ds) (hs : ∀ z ∈ fz, z ∈ fz') (hm : (l, W.listOf vs.toArray k) ∈ fz') : Via fz' (.ref l) (.list ds) := fun h hh =>
  let ⟨_, r⟩ := b h fun q hq => hh q (hs q hq)
  ⟨_, .list (hh _ hm) rfl rfl (by simpa using r)⟩
/-- objects that a call made join the ledger -/
theorem news_join {h₀ h h' : Heap} {L : Addr} {m : Str → Option Value} {news fz : List (Addr × Obj)} (F : Fr h₀ L h m) (N : News h₀ L h' news) (hf : HoldsAll fz h') (hn : ∀ q ∈ fz, h.get? q.1 = none) : News h₀ L h' (fz ++ news) := by
  intro q hq
  rcases List.mem_append.mp hq with z | z
  · refine ⟨hf q z, fun e => ?_, ?_⟩
    · obtain ⟨oL, _, _, hL, _⟩ := F.ns
      rw [← e, hn q z] at hL
      cases hL
    · cases e : h₀.get? q.1 with
      | none => rfl
      | some o => have := F.keep _ _ e; rw [hn q z] at this; cases this
  · exact N q z
theorem stars_two {n i : Nat} (h : 2 ≤ n % 4) (h' : n - 1 - i = 0) : ((starsOf n i : Nat) : Int) = 2 := by rw [starsOf, if_pos ⟨h, h'⟩]; rfl
theorem stars_one {n i : Nat} (h : ¬ (2 ≤ n % 4 ∧ n - 1 - i = 0)) (h' : n % 4 % 2 = 1) (h2 : n - 1 - i = n % 4 / 2) : ((starsOf n i : Nat) : Int) = 1 := by rw [starsOf, if_neg h, if_pos ⟨h', h2⟩]; rfl
theorem stars_none {n i : Nat} (h : ¬ (2 ≤ n % 4 ∧ n - 1 - i = 0)) (h' : ¬ (n % 4 % 2 = 1 ∧ n - 1 - i = n % 4 / 2)) : ((starsOf n i : Nat) : Int) = 0 := by rw [starsOf, if_neg h, if_neg h']; rfl
theorem stars_cases (n i : Nat) : starsOf n i = 0 ∨ starsOf n i = 1 ∨ starsOf n i = 2 := by
  unfold starsOf; split
  · simp
  · split <;> simp
theorem stars_mul (n i : Nat) : Txt.mul (Str.ofString "*") ((starsOf n i : Nat) : Int) = starText (starsOf n i) := by
  rcases stars_cases n i with e | e | e <;> rw [e] <;> decide
theorem join_ne {h₀ h : Heap} {L : Addr} {news fz : List (Addr × Obj)} (N : News h₀ L h news) (hn : ∀ q ∈ fz, h.get? q.1 = none) {z : Addr × Obj} (hz : z ∈ news) : ∀ q ∈ fz, q.1 ≠ z.1 := fun q hq e => by
  have := (N z hz).1
  rw [← e, hn q hq] at this
  cases this
theorem due_turn {names : List Str} {D : Nat → PyData} {s : Shared} {Q : Flow → Shared → Prop} {s₂ : Shared} {h₀ h : Heap} {L rw I Tt : Addr} {io : Obj} {m : Str → Option Value} {fz fz' : List (Addr × Obj)} {vs' : List Value} {q i n : Nat} {v : Value} {d : PyData} {tx : Tok} {a nm : Addr} {vl : Nat}
    (F : Fr h₀ L h m) (N : News h₀ L h ((Tt, (⟨.type "tuple", none, .seq #[.str (starText (starsOf names.length i) ++ names.getD i Str.empty) tx, v] n, #[]⟩ : Obj)) :: (I, io) :: (rw, W.listOf (vs' ++ [Value.ref Tt]).toArray (q + 1)) :: fz'))
    (hv : Via fz' v d) (hs : ∀ z ∈ fz, z ∈ fz') (hvia : ViaAll fz vs' ((List.range i).map fun k => PyData.tuple [.str (starText (starsOf names.length k) ++ names.getD k Str.empty), D k])) (hD : D i = d) (hs₂ : ∃ tk, s₂ = { s with heap := h, toks := tk })
    (hI : rw ≠ I) (h1 : Tt ≠ I) (h2 : Tt ≠ rw) (hl : vs'.length = i) (hfI : ∀ z ∈ fz', z.1 ≠ I) (hfr : ∀ z ∈ fz', z.1 ≠ rw)
    (hm : ∃ tw, ∀ y, y ≠ Str.ofString "k" → y ≠ Str.ofString "behind" → y ≠ Str.ofString "stars" → y ≠ Str.ofString "value" → m y = (if y = Str.ofString "way" then some (Value.int ((vl : Int).fmod 4) tw) else if y = Str.ofString "rows" then some (Value.ref rw) else if y = Str.ofString "names" then some (Value.ref nm) else List.lookup y [(Str.ofString "frame", Value.ref a)].reverse)) :
    TurnEnd h₀ L s Q I io (fun m news => ∃ tw u1 u2 u3 u4 vs' q fz, m = (fun y => if y = Str.ofString "k" then u1 else if y = Str.ofString "behind" then u2 else if y = Str.ofString "stars" then u3 else if y = Str.ofString "value" then u4 else
        if y = Str.ofString "way" then some (Value.int ((vl : Int).fmod 4) tw) else if y = Str.ofString "rows" then some (Value.ref rw) else if y = Str.ofString "names" then some (Value.ref nm) else List.lookup y [(Str.ofString "frame", Value.ref a)].reverse) ∧
      news = (rw, W.listOf (List.toArray vs') q) :: fz ∧ (∀ z ∈ fz, z.1 ≠ rw) ∧ ViaAll fz vs' ((List.range (i + 1)).map fun k => PyData.tuple [.str (starText (starsOf names.length k) ++ names.getD k Str.empty), D k]) ∧ vs'.length = i + 1) .next s₂ := by
  obtain ⟨tk, rfl⟩ := hs₂
  obtain ⟨tw, hm⟩ := hm
  refine ⟨h, tk, _, (rw, W.listOf (vs' ++ [Value.ref Tt]).toArray (q + 1)) :: (Tt, (⟨.type "tuple", none, .seq #[.str (starText (starsOf names.length i) ++ names.getD i Str.empty) tx, v] n, #[]⟩ : Obj)) :: fz', rfl, F, news_sub N (fun z hz => ?_), fun z hz => ?_, tw, m (Str.ofString "k"), m (Str.ofString "behind"), m (Str.ofString "stars"), m (Str.ofString "value"), _, _, _, ?_, rfl, fun z hz => ?_, ?_, by simp [hl]⟩
  rotate_left
  · rcases List.mem_cons.mp hz with rfl | hz
    · exact hI
    · rcases List.mem_cons.mp hz with rfl | hz
      · exact h1
      · exact hfI z hz
  · funext y
    by_cases q1 : y = Str.ofString "k"
    · rw [if_pos q1, q1]
    by_cases q2 : y = Str.ofString "behind"
    · rw [if_neg q1, if_pos q2, q2]
    by_cases q3 : y = Str.ofString "stars"
    · rw [if_neg q1, if_neg q2, if_pos q3, q3]
    by_cases q4 : y = Str.ofString "value"
    · rw [if_neg q1, if_neg q2, if_neg q3, if_pos q4, q4]
    rw [if_neg q1, if_neg q2, if_neg q3, if_neg q4, hm y q1 q2 q3 q4]
  · rcases List.mem_cons.mp hz with rfl | hz
    · exact h2
    · exact hfr z hz
  · rw [List.range_succ, List.map_append]
    refine hvia.snoc ?_ (fun z hz => .tail _ (hs z hz))
    show Via _ _ (PyData.tuple [_, D i])
    rw [hD]
    exact Via.pair (hv.more fun z hz => .tail _ hz) (.head _)
  · simp only [List.mem_cons] at hz ⊢
    rcases hz with h | h | h | h <;> simp [h]
end Mine
end -- H1
section -- G3
open PySem PySem.W PyProof.Rows PySem.Calls PySem.Spec
set_option maxHeartbeats 8000000
namespace Mine
variable {w : World} {base : Heap} {p : Program} {loose : List Str} {mean : ExcName → Option Value} {mg mb : Str → Option Value}
local macro_rules | `(tactic| walk_at "subscriptTail Name Name ref int") => `(tactic| refine Mine.Stop.mk ?_)
local macro_rules | `(tactic| walk_at "subscriptTail Name Subscript ref str") => `(tactic| refine Mine.Stop.mk ?_)
local macro_rules | `(tactic| walk_at "call builtin:len cons nil") => `(tactic| refine Mine.Stop.mk ?_)
local macro_rules | `(tactic| walk_at "call builtin:list.append cons nil") => `(tactic| refine Mine.Stop.mk ?_)
local macro_rules | `(tactic| walk_at "pyIter ref") => `(tactic| refine Mine.Stop.mk ?_)
local macro_rules | `(tactic| walk_at "call ref") => `(tactic| ((with_reducible show wpAny _ _ (call (Value.ref 57) _ _) _ _ _); refine Mine.Stop.mk ?_))
local macro_rules | `(tactic| walk_at "unpackItems ref") => `(tactic| (k_here; (refine unpackItemsN_ (by k_asm) (by k_asm) (by kun_tup) (by assumption) (by rfl) ?_); intro h' F' N'; (try k_sweep)))
local macro_rules | `(tactic| walk_at "call type:type") => `(tactic| ((with_reducible show wpAny _ _ (call _ [Value.ref _]) _ _ _); refine Mine.Stop.mk ?_))
local macro_rules | `(tactic| walk_at "call ref") => `(tactic| ((with_reducible show wpAny _ _ (call (Value.ref 64) _ _) _ _ _); refine Mine.Stop.mk ?_))
local macro_rules | `(tactic| walk_at "map eq") => `(tactic| (funext y; (repeat' split); all_goals first | rfl | (subst_vars; first | rfl | (exfalso; rename Str.ofString _ = Str.ofString _ => hbad; exact absurd hbad (by decide)))))
theorem star_facts {n k i : Nat} (hi : i < n) (hn : n = k) : (2 ≤ (n : Int).fmod 4 ↔ 2 ≤ k % 4) ∧ ((n : Int) - 1 - i = 0 ↔ k - 1 - i = 0) ∧ (((n : Int).fmod 4).fmod 2 = 1 ↔ k % 4 % 2 = 1) ∧ ((n : Int) - 1 - i = ((n : Int).fmod 4).fdiv 2 ↔ k - 1 - i = k % 4 / 2) := by
  subst hn
  rw [Int.fmod_eq_emod_of_nonneg _ (by decide), Int.fmod_eq_emod_of_nonneg _ (by decide), Int.fdiv_eq_ediv_of_nonneg _ (by decide)]
  refine ⟨?_, ?_, ?_, ?_⟩ <;> omega
theorem due_body (bs : Base1 w base p loose mean mg mb) {g : Heap} {a nm d : Addr} {kk : Nat} {vs : List Value} {names : List Str} {f : Str → Option Value} {D : Nat → PyData} {Pv : Heap → Prop} {dv uv : Nat}
    (hvs : StrsAre vs names) (hd : (d == sysModules) = false) (hlen : names.length ≤ 100) (hnl : ∀ x ∈ names, 0 < x.length ∧ x.length ≤ 100) (hmono : ∀ h h', Pv h → h.StaysIn h' → Pv h')
    (hv : ∀ (k : Nat) x, names[k]? = some x → ∃ v, f x = some v ∧ ((∃ i t, v = Value.int i t ∧ D k = .int i) ∨ (∃ b, v = Value.ref b ∧ (∀ h, Pv h → ∃ vs, h.IsList b vs) ∧ ∀ g : Heap, Calls PySem.Challenge.pw_dw0016_01 w base [] dv uv (fun h => Pv h ∧ ∀ a o, g.get? a = some o → (h.get? a).isSome = true) (.ref 64) [v] [] (fun r h' => ∃ fz, HoldsAll fz h' ∧ (∀ q ∈ fz, g.get? q.1 = none) ∧ Via fz r (D k)) (fun _ _ => False)))) :
    Calls PySem.Challenge.pw_dw0016_01 w base [] (dv + 1) (uv + 30) (fun h => h.get? a = some (W.listOf (List.toArray [Value.ref nm, Value.ref d]) kk) ∧ h.IsList nm vs.toArray ∧ h.MapOf (strKind PySem.Challenge.pw_dw0016_01 w) d f ∧ Pv h ∧ ∀ a o, g.get? a = some o → (h.get? a).isSome = true)
      (.ref 64) [.ref a] [] (fun r h' => ∃ fz, HoldsAll fz h' ∧ (∀ q ∈ fz, g.get? q.1 = none) ∧ Via fz r (.list ((List.range names.length).map fun k => .tuple [.str (starText (starsOf names.length k) ++ names.getD k Str.empty), D k]))) (fun _ _ => False) := by
  refine' calls_K (K := hd1.heap_39 w.params) (binds := [(Str.ofString "frame", .ref a)]) ?hS bs.T.nolimit bs.K (by omega) ?ho ?hcd ?hbind ?hloc ?body ?hcell ?hco ?hgen ?hk
  case ho => k_is
  case hcd => k_is
  case hS => intro b hb; cases hb
  case hbind => exact fun s st => BindsTo.of_eq rfl
  case hloc => exact locs rfl
  case hcell => decide
  case hco => exact rfl
  case hgen => exact rfl
  case hk => exact rfl
  intro A fr s L h₁ hA hpre hh hroom hu ff hSf stg B F st₁ hL
  obtain ⟨hfr, hnm, hmap, hPv, hg⟩ := hpre
  have hfl : (hideAll s.heap []).IsList a (List.toArray [Value.ref nm, Value.ref d]) := ⟨_, hfr, rfl, _, rfl⟩
  have X := bs.K.keeps stg
  have T := bs.T.keeps stg
  have hln : vs.length = names.length := hvs.1
  have N : News (hideAll s.heap []) L h₁ [] := News.nil
  refine stop_cons ?_
  k_steps
  rename Fr _ _ _ _ => F'
  rename News _ _ _ _ => N'
  rename_i rw _ _ D₀ _ hrD _ _ _
  show wpAny _ _ (execs _ _) _ _ _
  refine stop_cons ?_
  k_steps
  refine len_h0 hnm F' (by omega) ?_
  k_steps
  rename Fr _ _ _ _ => F'
  rename News _ _ _ _ => N'
  show wpAny _ _ (execs _ _) _ _ _
  refine stop_cons ?_
  refine For_invV (hideAll s.heap []) rfl rfl ?_
  k_steps
  refine len_h0 hnm F' (by omega) ?_
  k_steps
  show wpAny _ _ (pyIter _) _ _ _
  rename News _ _ _ _ => N'
  rename Fr _ _ _ _ => F'
  rename IsRange _ _ _ _ _ _ _ _ => hr
  refine range_loop (n := vs.length) (fun i m news => ∃ tw u1 u2 u3 u4 vs' q fz, m = (fun y => if y = Str.ofString "k" then u1 else if y = Str.ofString "behind" then u2 else if y = Str.ofString "stars" then u3 else if y = Str.ofString "value" then u4 else
        if y = Str.ofString "way" then some (Value.int ((vs.length : Int).fmod 4) tw) else if y = Str.ofString "rows" then some (Value.ref rw) else if y = Str.ofString "names" then some (Value.ref nm) else List.lookup y [(Str.ofString "frame", Value.ref a)].reverse) ∧
      news = (rw, W.listOf (List.toArray vs') q) :: fz ∧ (∀ z ∈ fz, z.1 ≠ rw) ∧ ViaAll fz vs' ((List.range i).map fun k => PyData.tuple [.str (starText (starsOf names.length k) ++ names.getD k Str.empty), D k]) ∧ vs'.length = i) hh hr (by omega) F' (news_swap N') ?_ ?_ ?_
  · exact ⟨_, none, none, none, none, [], 0, _, by walk_at "map eq", rfl, fun z hz => by rw [List.mem_singleton.mp hz]; exact Nat.ne_of_gt hrD, fun h _ => ⟨_, .nil⟩, rfl⟩
  · rintro i t m₁ news₁ h tk I io hi ⟨tw, u1, u2, u3, u4, vs', q, fz, rfl, rfl, hfz, hvia, hlen'⟩ hne F₁ N₁
    clear F' N'
    have hi' : i < names.length := by omega
    have hi60 : i < 2 ^ 60 := by omega
    have hi24 : i ≤ sizeLine := by have : sizeLine = 2 ^ 24 := rfl; omega
    have hr1 : A.depth + 1 + dv < recursionLimit := by omega
    have hu1 : A.units + 3 + uv < cLine := by omega
    have hgd : names[i]? = some (names.getD i Str.empty) := by simp [hi']
    obtain ⟨tx, hx⟩ := hvs.2 i (names.getD i Str.empty) hgd
    replace F₁ : Fr (hideAll s.heap []) L h _ := F₁
    replace N₁ : News (hideAll s.heap []) L h _ := N₁
    refine stop_cons ?_
    k_steps
    refine len_h0 hnm F₁ (by omega) ?_
    k_steps
    rename Fr _ _ _ _ => F₁
    rename News _ _ _ _ => N₁
    show wpAny _ _ (execs _ _) _ _ _
    obtain ⟨e4, eb, e2, ed⟩ := star_facts hi hln
    refine stop_cons ?_
    refine store_cut (Str.ofString "stars") (fun t => Value.int (starsOf names.length i : Nat) t) s F₁ N₁ ?_ ?_
    · k_steps
      all_goals
        rename Fr _ _ _ _ => F₂
        rename News _ _ _ _ => N₂
        first
        | exact st_post (stars_two (e4.mp (by assumption)) (eb.mp (by assumption))) F₂ N₂
        | exact st_post (stars_one (by first | exact fun q => absurd (e4.mpr q.1) (by assumption) | exact fun q => absurd (eb.mpr q.2) (by assumption)) (e2.mp (by assumption)) (ed.mp (by assumption))) F₂ N₂
        | exact st_post (stars_none (by first | exact fun q => absurd (e4.mpr q.1) (by assumption) | exact fun q => absurd (eb.mpr q.2) (by assumption)) (by first | exact fun q => absurd (e2.mpr q.1) (by assumption) | exact fun q => absurd (ed.mpr q.2) (by assumption))) F₂ N₂
    intro h₂ tk₂ ts F₂ N₂
    clear F₁ N₁ e4 eb e2 ed
    show wpAny _ _ (execs _ _) _ _ _
    obtain ⟨v, hfv, hcases⟩ := hv i (names.getD i Str.empty) hgd
    refine stop_cons ?_
    k_steps
    refine item_h0 hnm F₂ hi60 hx ?_
    k_steps
    refine dict_h0 hmap F₂ hfv ?_
    k_steps
    rename Fr _ _ _ _ => F₂
    rename News _ _ _ _ => N₂
    show wpAny _ _ (execs _ _) _ _ _
    refine stop_cons ?_
    have hmul := stars_mul names.length i
    have h3 := stars_cases names.length i
    have hsl := starText_len (starsOf names.length i)
    have hnx := hnl (names.getD i Str.empty) (List.mem_of_getElem? hgd)
    rcases hcases with ⟨iv, tv, rfl, hD⟩ | ⟨b, rfl, hbl, hcall⟩
    · k_steps
      refine item_h0 hnm F₂ hi60 hx ?_
      rw [hmul]
      k_steps
      rename Fr _ _ _ _ => F₃
      rename News _ _ _ _ => N₃
      rename _ < _ ∧ _ < _ ∧ AllLt _ fz => l3
      refine append_K F₃ N₃ (Upd.tail (Nat.ne_of_gt l3.2.1) (Upd.tail (Ne.symm (hne _ (.head _))) (Upd.head hfz))) ?_ (by rw [List.size_toArray, hlen']; exact hi24)
      intro h₅ F₅ N₅
      rw [List.push_toArray] at N₅
      show wpAny _ _ (execs _ _) _ _ _
      refine wpAny_execs_nil ?_
      refine due_turn (D := D) F₅ N₅ (Via.int fz iv tv) (fun z hz => hz) hvia hD ⟨_, rfl⟩ (hne _ (.head _)) (Nat.ne_of_gt l3.1) (Nat.ne_of_gt l3.2.1) hlen' (fun z hz => hne z (.tail _ hz)) hfz ⟨tw, fun y q1 q2 q3 q4 => ?_⟩
      simp only [if_neg q1, if_neg q2, if_neg q3, if_neg q4]
    · k_steps
      refine item_h0 hnm F₂ hi60 hx ?_
      rw [hmul]
      k_steps
      show wpAny _ _ (call _ _ _) _ _ _
      obtain ⟨lvs, hbl₂⟩ := hbl _ hPv
      refine kto_cont (T := "list") (let ⟨o, a, b, _⟩ := isList_keeps hbl₂ F₂.keep; ⟨o, a, b⟩) (by decide) ?_
      k_steps
      show wpAny _ _ (call _ _ _) _ _ _
      refine use_calls (hcall _) B F₂ rfl rfl (fun b hb => nomatch hb) ⟨hmono _ _ hPv F₂.keep, fun a o e => by rw [e]; rfl⟩ hh hr1 hu1 ?_ (fun _ _ _ _ U => let ⟨_, _, _, _, e, _⟩ := U; e.elim)
      rintro r h₄ tk₄ k₄ ⟨fz₂, hf₂, hn₂, hvia₂⟩
      have st₄ := fun b o e => k₄ b o (fun m => nomatch m) e
      have F₄ := F₂.keeps st₄
      have N₄ := news_join F₂ (N₂.keeps st₄) hf₂ hn₂
      have hj1 := join_ne N₂ hn₂ (.head _)
      have hj2 := join_ne N₂ hn₂ (.tail _ (.head _))
      replace N₄ : News _ _ _ ((I, io) :: (rw, W.listOf vs'.toArray q) :: (fz₂ ++ fz)) := news_sub N₄ fun z hz => by
        simp only [List.mem_cons, List.mem_append] at hz ⊢
        rcases hz with h | h | h | h <;> simp [h]
      have hfz' : ∀ z ∈ fz₂ ++ fz, z.1 ≠ rw := fun z hz => (List.mem_append.mp hz).elim (hj2 z) (hfz z)
      have hne' : ∀ z ∈ (rw, W.listOf vs'.toArray q) :: (fz₂ ++ fz), z.1 ≠ I := fun z hz => by
        rcases List.mem_cons.mp hz with rfl | hz
        · exact hne _ (.head _)
        · exact (List.mem_append.mp hz).elim (hj1 z) fun q => hne z (.tail _ q)
      clear F₂ N₂
      k_steps
      rename Fr _ _ _ _ => F₃
      rename News _ _ _ _ => N₃
      rename _ < _ ∧ _ < _ ∧ AllLt _ (fz₂ ++ fz) => l3
      refine append_K F₃ N₃ (Upd.tail (Nat.ne_of_gt l3.2.1) (Upd.tail (Ne.symm (hne _ (.head _))) (Upd.head hfz'))) ?_ (by rw [List.size_toArray, hlen']; exact hi24)
      intro h₅ F₅ N₅
      rw [List.push_toArray] at N₅
      show wpAny _ _ (execs _ _) _ _ _
      refine wpAny_execs_nil ?_
      refine due_turn (D := D) F₅ N₅ (hvia₂.more fun z hz => List.mem_append_left _ hz) (fun z hz => List.mem_append_right _ hz) hvia rfl ⟨_, rfl⟩ (hne _ (.head _)) (Nat.ne_of_gt l3.1) (Nat.ne_of_gt l3.2.1) hlen' (fun z hz => hne' z (.tail _ hz)) hfz' ⟨tw, fun y q1 q2 q3 q4 => ?_⟩
      simp only [if_neg q1, if_neg q2, if_neg q3, if_neg q4]
  · rintro m₁ news₁ h tk ⟨tw, u1, u2, u3, u4, vs', q, fz, rfl, rfl, hfz, hvia, hlen'⟩ F₃ N₃
    clear F' N'
    show wpAny _ _ (execs _ _) _ _ _
    k_steps
    refine Out.mk F₃.keep ⟨(rw, W.listOf vs'.toArray q) :: fz, fun z hz => (N₃ z hz).1, fun z hz => ?_, Via.list (by rw [hln] at hvia; exact hvia) (fun z hz => .tail _ hz) (.head _)⟩
    cases e : g.get? z.1 with
    | none => rfl
    | some o =>
      have h1 := hg _ _ e
      have h2 : s.heap.get? z.1 = none := (N₃ z hz).2.2
      rw [h2] at h1
      cases h1
end Mine
end -- G3
section -- G4
open PySem PySem.W PyProof.Rows PySem.Calls PySem.Spec
namespace Mine
variable {w : World} {base : Heap} {p : Program} {loose : List Str} {mean : ExcName → Option Value} {mg mb : Str → Option Value}
noncomputable def secondOf : Option PyData → PyData
  | some (.tuple [_, d]) => d
  | _ => .none
theorem due_list {ar : Nat → Rows} {r : Rows} {t : T} (h : Spells ar r t) (hok : t.ok) (hn : t.names.Nodup) :
    (List.range t.names.length).map (fun k => PyData.tuple [.str (starText (starsOf t.names.length k) ++ t.names.getD k Str.empty), secondOf (t.due t.len 0)[k]?]) = t.due t.len 0 := by
  apply List.ext_getElem?
  intro k
  by_cases hk : k < t.names.length
  · have hx : t.names[k]? = some (t.names.getD k Str.empty) := by simp [hk]
    rw [List.getElem?_map, List.getElem?_range hk, Option.map_some]
    rw [T.names_length]
    rcases due_at h hok hn k _ hx with ⟨i, _, b⟩ | ⟨j, c, _, _, _, _, _, _, _, b⟩
    · have := b t.len 0
      rw [Nat.zero_add] at this
      rw [this]; rfl
    · have := b t.len 0
      rw [Nat.zero_add] at this
      rw [this]; rfl
  · rw [List.getElem?_eq_none (by simpa using hk), List.getElem?_eq_none (by rw [T.due_len, ← T.names_length]; omega)]
theorem dueT (bs : Base1 w base p loose mean mg mb) {ad : Nat → Addr} {n : Nat} {ar : Nat → Rows} : ∀ (m : Nat) (t : T) (i : Nat) (g : Heap), t.size ≤ m → t.size ≤ 100 → i < n → Spells ar (ar i) t → t.ok → t.names.Nodup → (∀ j ∈ t.ids, j < n) →
    Calls PySem.Challenge.pw_dw0016_01 w base [] (m + 1) (30 * m + 30) (fun h => Arena w ad (fun _ => false) n ar h ∧ ∀ a o, g.get? a = some o → (h.get? a).isSome = true) (.ref 64) [.ref (ad i)] []
      (fun r h' => ∃ fz, HoldsAll fz h' ∧ (∀ q ∈ fz, g.get? q.1 = none) ∧ Via fz r t.dueD) (fun _ _ => False) := by
  intro m
  induction m with
  | zero =>
    intro t i g hm h100 hi hsp hok hnd hids
    have ht : t = .nil := by cases t <;> first | rfl | (simp [T.size] at hm)
    subst ht
    intro A fr s Q E hA st ff hSf hpre
    obtain ⟨nm, d, k, vs, f, a1, a2, a3, a4, a5, a6⟩ := hpre.1 i hi
    rw [hsp.names] at a3
    have H := due_body bs (g := g) (a := ad i) (kk := k) (nm := nm) (f := f) (dv := 0) (uv := 0) (D := fun _ => .none) (Pv := fun _ => True) a3 a4 (by simp [T.names]) (fun x hx => nomatch hx) (fun _ _ _ _ => trivial) (fun k x hx => by simp [T.names] at hx)
    exact H A fr s Q E hA st ff hSf ⟨a1, a2, a5, trivial, hpre.2⟩
  | succ m ih =>
    intro t i g hm h100 hi hsp hok hnd hids
    intro A fr s Q E hA st ff hSf hpre
    obtain ⟨nm, d, k, vs, f, a1, a2, a3, a4, a5, a6⟩ := hpre.1 i hi
    rw [hsp.names] at a3
    have H := due_body bs (g := g) (a := ad i) (kk := k) (nm := nm) (f := f) (dv := m + 1) (uv := 30 * m + 30) (D := fun k => secondOf (t.due t.len 0)[k]?) (Pv := Arena w ad (fun _ => false) n ar) a3 a4 (by rw [T.names_length]; have := t.len_le; omega) (fun x hx => by have := ok_names hok x hx; omega)
      (fun _ _ a b => a.keeps b)
      (fun k x hx => by
        have h1 := a6 x
        simp only [Bool.false_eq_true, if_false] at h1
        rcases due_at hsp hok hnd k x hx with ⟨j, e, b⟩ | ⟨j, c, e, b1, b2, b3, b4, b5, b6, b⟩
        · have := b t.len 0
          rw [e] at h1
          cases q : f x with
          | none => rw [q] at h1; cases h1
          | some v =>
            rw [q] at h1
            obtain ⟨tj, rfl⟩ := h1
            exact ⟨_, rfl, .inl ⟨j, tj, rfl, by rw [this]; rfl⟩⟩
        · have := b t.len 0
          rw [e] at h1
          cases q : f x with
          | none => rw [q] at h1; cases h1
          | some v =>
            rw [q] at h1
            have hvj : v = Value.ref (ad j) := h1
            subst hvj
            refine ⟨_, rfl, .inr ⟨ad j, rfl, fun h a => ?_, fun g' => ?_⟩⟩
            · obtain ⟨nm, d, k, vs, f, a1, _⟩ := a j (hids j b5)
              exact ⟨_, _, a1, rfl, _, rfl⟩
            · rw [this]
              exact ih c j g' (by omega) (by omega) (hids j b5) b1 b3 b4 (fun z hz => hids z (b6 z hz)))
    rw [due_list hsp hok hnd] at H
    exact (H.weak (by omega) (by omega) (fun _ o => o) (fun _ _ o => o) (fun _ _ o => o)) A fr s Q E hA st ff hSf ⟨a1, a2, a5, hpre.1, hpre.2⟩
end Mine
end -- G4
section -- P3
open PySem PySem.W PyProof.Rows PySem.Calls PySem.Spec
namespace Mine
noncomputable abbrev Str.ls (x : Str) : List Nat := x.cps.toList
theorem ls_append (x y : Str) : (x ++ y).cps.toList = x.cps.toList ++ y.cps.toList := by
  show (x.cps ++ y.cps).toList = _
  simp
noncomputable def isDig (c : Nat) : Bool := decide (48 ≤ c ∧ c ≤ 57)
mutual
/-- the reader at its loop's head: the rest of the text, the open rows (the innermost first), the marks (the last first), what it gives -/
inductive RunM : List Nat → List (List PyData) → List Str → List PyData → Prop
  | done {top : List PyData} {ms : List Str} : RunM [] [top] ms top
  | opn {nm : Str} {r : List Nat} {rows : List (List PyData)} {marks : List Str} {res : List PyData} : 61 ∉ nm.cps.toList → nm.cps.toList.head? ≠ some 41 → RunM r ([] :: rows) (nm :: marks) res → RunM (40 :: (nm.cps.toList ++ 61 :: r)) rows marks res
  | empty {r : List Nat} {rows : List (List PyData)} {marks : List Str} {res : List PyData} : RunC (41 :: r) ([] :: rows) marks res → RunM (40 :: 41 :: r) rows marks res
  | num {c : Nat} {d r : List Nat} {x m : Str} {i : Int} {top : List PyData} {rows : List (List PyData)} {ms : List Str} {res : List PyData} : c ≠ 40 → x.cps.toList = c :: d → (∀ e ∈ d, isDig e = true) → PySem.intText? x = some i → x.length ≤ 640 → (∀ e, r.head? = some e → isDig e = false) →
      RunC r ((top ++ [.tuple [.str m, .int i]]) :: rows) ms res → RunM (c :: (d ++ r)) (top :: rows) (m :: ms) res
/-- behind a value -/
inductive RunC : List Nat → List (List PyData) → List Str → List PyData → Prop
  | close {r : List Nat} {a b : List PyData} {m : Str} {rows : List (List PyData)} {ms : List Str} {res : List PyData} : RunC r ((b ++ [.tuple [.str m, .list a]]) :: rows) ms res → RunC (41 :: r) (a :: b :: rows) (m :: ms) res
  | fin {rows : List (List PyData)} {marks : List Str} {res : List PyData} : RunM [] rows marks res → RunC [] rows marks res
  | next {nm : Str} {r : List Nat} {rows : List (List PyData)} {marks : List Str} {res : List PyData} : 61 ∉ nm.cps.toList → RunM r rows (nm :: marks) res → RunC (44 :: 32 :: (nm.cps.toList ++ 61 :: r)) rows marks res
end
/-- a letter and figures -/
noncomputable def NameOk (x : Str) : Prop := ∃ c ds, x.cps.toList = c :: ds ∧ (c = 120 ∨ c = 121 ∨ c = 122) ∧ ∀ d ∈ ds, isDig d = true
theorem NameOk.no_eq {x : Str} (h : NameOk x) : 61 ∉ x.cps.toList := by
  obtain ⟨c, ds, e, hc, hd⟩ := h
  rw [e]
  intro m
  rcases List.mem_cons.mp m with q | q
  · omega
  · have := hd _ q
    simp [isDig] at this
theorem star_chars (k : Nat) : ∀ c ∈ (starText k).cps.toList, c = 42 := by
  match k with
  | 0 => decide
  | 1 => decide
  | n + 2 => show ∀ c ∈ (Str.ofString "**").cps.toList, c = 42; decide
noncomputable def mark (n k : Nat) (x : Str) : Str := starText (starsOf n k) ++ x
theorem mark_no_eq {n k : Nat} {x : Str} (h : NameOk x) : 61 ∉ (mark n k x).cps.toList := by
  rw [mark, ls_append]
  intro m
  rcases List.mem_append.mp m with q | q
  · have := star_chars _ _ q; omega
  · exact h.no_eq q
theorem mark_head {n k : Nat} {x : Str} (h : NameOk x) : (mark n k x).cps.toList.head? ≠ some 41 := by
  rw [mark, ls_append]
  have hs := star_chars (starsOf n k)
  obtain ⟨c, ds, e, hc, hd⟩ := h
  cases q : (starText (starsOf n k)).cps.toList with
  | nil => rw [e]; simp; omega
  | cons a r => rw [q] at hs; have := hs a (.head _); simp; omega
theorem digitsOf (i : Int) (h : -500 ≤ i ∧ i < 500) : ∃ c d, (Str.ofString (toString i)).cps.toList = c :: d ∧ c ≠ 40 ∧ (∀ e ∈ d, isDig e = true) ∧ PySem.intText? (Str.ofString (toString i)) = some i ∧ (c = 45 ∨ isDig c = true) := by
  have key : ∀ n : Nat, n < 1000 → (match (Str.ofString (toString ((n : Int) - 500))).cps.toList with
    | [] => false
    | c :: d => c != 40 && d.all isDig && (c == 45 || isDig c)) && (PySem.intText? (Str.ofString (toString ((n : Int) - 500))) == some ((n : Int) - 500)) = true := by decide +kernel
  have := key (i + 500).toNat (by omega)
  rw [show (((i + 500).toNat : Nat) : Int) - 500 = i by omega] at this
  revert this
  cases e : (Str.ofString (toString i)).cps.toList with
  | nil => intro h; simp at h
  | cons c d =>
    intro h
    simp only [Bool.and_eq_true, bne_iff_ne, List.all_eq_true, Bool.or_eq_true, beq_iff_eq] at h
    exact ⟨c, d, rfl, h.1.1.1, h.1.1.2, of_decide_eq_true h.2, h.1.2⟩
theorem join_cons2 (a : Str) (l : List Str) (h : l ≠ []) : Str.join (Str.ofString ", ") (a :: l) = a ++ Str.ofString ", " ++ Str.join (Str.ofString ", ") l := by
  cases l with
  | nil => exact absurd rfl h
  | cons b r => rfl
theorem texts_ne {t : T} {n k : Nat} (h : t ≠ .nil) : t.texts n k ≠ [] := by
  cases t with
  | nil => exact absurd rfl h
  | num _ _ _ => simp [T.texts]
  | sub _ _ _ _ => simp [T.texts]
noncomputable def rowsText (t : T) (n k : Nat) : List Nat := (Str.join (Str.ofString ", ") (t.texts n k)).cps.toList
theorem text_ls (t : T) : t.text.cps.toList = 40 :: (rowsText t t.len 0 ++ [41]) := by
  rw [T.text, wrap, ls_append, ls_append]
  rfl
theorem rowsText_num (x : Str) (i : Int) (r : T) (n k : Nat) : rowsText (.num x i r) n k = (mark n k x).cps.toList ++ 61 :: ((Str.ofString (toString i)).cps.toList ++ (if r.texts n (k + 1) = [] then [] else 44 :: 32 :: rowsText r n (k + 1))) := by
  unfold rowsText
  by_cases h : r.texts n (k + 1) = []
  · rw [if_pos h, T.texts, h]
    show (starText (starsOf n k) ++ x ++ (Str.ofString "=" ++ Str.ofString (toString i))).cps.toList = _
    rw [ls_append, ls_append (Str.ofString "="), mark]
    simp; rfl
  · rw [if_neg h, T.texts, join_cons2 _ _ h, ls_append, ls_append, ls_append, ls_append (Str.ofString "="), mark]
    simp; rfl
theorem rowsText_sub (x : Str) (j : Nat) (t r : T) (n k : Nat) : rowsText (.sub x j t r) n k = (mark n k x).cps.toList ++ 61 :: (t.text.cps.toList ++ (if r.texts n (k + 1) = [] then [] else 44 :: 32 :: rowsText r n (k + 1))) := by
  unfold rowsText
  by_cases h : r.texts n (k + 1) = []
  · rw [if_pos h, T.texts, h]
    show (starText (starsOf n k) ++ x ++ (Str.ofString "=" ++ wrap (t.texts t.len 0))).cps.toList = _
    rw [ls_append, ls_append (Str.ofString "="), mark, T.text]
    simp; rfl
  · rw [if_neg h, T.texts, join_cons2 _ _ h, ls_append, ls_append, ls_append, ls_append (Str.ofString "="), mark, T.text]
    simp; rfl
theorem texts_nil {t : T} {n k : Nat} (h : t.texts n k = []) : t = .nil := by
  cases t with
  | nil => rfl
  | num _ _ _ => simp [T.texts] at h
  | sub _ _ _ _ => simp [T.texts] at h
theorem run_frame_of {t : T} (A : t ≠ .nil → ∀ (n k : Nat) (acc : List PyData) (rows : List (List PyData)) (marks : List Str) (res : List PyData) (r : List Nat), RunC (41 :: r) ((acc ++ t.due n k) :: rows) marks res →
      ∃ nm s, rowsText t n k ++ 41 :: r = nm.cps.toList ++ 61 :: s ∧ 61 ∉ nm.cps.toList ∧ nm.cps.toList.head? ≠ some 41 ∧ RunM s (acc :: rows) (nm :: marks) res)
    {r : List Nat} {top : List PyData} {rows : List (List PyData)} {m : Str} {ms : List Str} {res : List PyData} (h : RunC r ((top ++ [.tuple [.str m, t.dueD]]) :: rows) ms res) :
    RunM (t.text.cps.toList ++ r) (top :: rows) (m :: ms) res := by
  rw [text_ls]
  by_cases ht : t = .nil
  · subst ht
    exact RunM.empty (RunC.close h)
  · obtain ⟨nm, s, e, h1, h2, h3⟩ := A ht t.len 0 [] (top :: rows) (m :: ms) res r (RunC.close (by simpa [T.dueD] using h))
    simp only [List.cons_append, List.append_assoc, List.nil_append]
    rw [e]
    exact RunM.opn h1 h2 h3
theorem run_rows : ∀ (t : T), t.ok → (∀ x ∈ t.pre, NameOk x) → t ≠ .nil → ∀ (n k : Nat) (acc : List PyData) (rows : List (List PyData)) (marks : List Str) (res : List PyData) (r : List Nat), RunC (41 :: r) ((acc ++ t.due n k) :: rows) marks res →
    ∃ nm s, rowsText t n k ++ 41 :: r = nm.cps.toList ++ 61 :: s ∧ 61 ∉ nm.cps.toList ∧ nm.cps.toList.head? ≠ some 41 ∧ RunM s (acc :: rows) (nm :: marks) res
  | .nil, _, _, hn => absurd rfl hn
  | .num x i rest, hok, hnm, _ => by
    intro n k acc rows marks res r h
    have hx := hnm x (.head _)
    obtain ⟨c, d, e1, e2, e3, e4, _⟩ := digitsOf i hok.2.1
    refine ⟨mark n k x, _, by rw [rowsText_num, List.append_assoc, List.cons_append], mark_no_eq hx, mark_head hx, ?_⟩
    rw [e1, List.append_assoc]
    have hlen := intText_small i hok.2.1
    by_cases hr : rest.texts n (k + 1) = []
    · have := texts_nil hr
      subst this
      rw [if_pos hr]
      exact RunM.num e2 e1 e3 e4 (by omega) (by intro e he; simp at he; subst he; rfl) h
    · rw [if_neg hr]
      have hr' : rest ≠ .nil := fun q => hr (by rw [q]; rfl)
      obtain ⟨nm, s, e, h1, h2, h3⟩ := run_rows rest hok.2.2 (fun y hy => hnm y (.tail _ hy)) hr' n (k + 1) (acc ++ [.tuple [.str (mark n k x), .int i]]) rows marks res r (by simpa [T.due, mark] using h)
      refine RunM.num e2 e1 e3 e4 (by omega) (by intro e he; simp at he; subst he; rfl) ?_
      simp only [List.cons_append]
      rw [e]
      exact RunC.next h1 h3
  | .sub x j t rest, hok, hnm, _ => by
    intro n k acc rows marks res r h
    have hx := hnm x (.head _)
    have A := fun ht => run_rows t hok.2.2.1 (fun y hy => hnm y (.tail _ (List.mem_append_left _ hy))) ht
    refine ⟨mark n k x, _, by rw [rowsText_sub, List.append_assoc, List.cons_append], mark_no_eq hx, mark_head hx, ?_⟩
    rw [List.append_assoc]
    by_cases hr : rest.texts n (k + 1) = []
    · have := texts_nil hr
      subst this
      rw [if_pos hr]
      exact run_frame_of A h
    · rw [if_neg hr]
      have hr' : rest ≠ .nil := fun q => hr (by rw [q]; rfl)
      obtain ⟨nm, s, e, h1, h2, h3⟩ := run_rows rest hok.2.2.2 (fun y hy => hnm y (.tail _ (List.mem_append_right _ hy))) hr' n (k + 1) (acc ++ [.tuple [.str (mark n k x), t.dueD]]) rows marks res r (by simpa [T.due, mark, T.dueD] using h)
      refine run_frame_of A ?_
      simp only [List.cons_append]
      rw [e]
      exact RunC.next h1 h3
/-- the reader gets the whole back -/
theorem run_text (t : T) (hok : t.ok) (hnm : ∀ x ∈ t.pre, NameOk x) : RunM t.text.cps.toList [[]] [Str.ofString ""] [.tuple [.str (Str.ofString ""), t.dueD]] := by
  have := run_frame_of (t := t) (r := []) (top := []) (rows := []) (m := Str.ofString "") (ms := []) (fun ht => run_rows t hok hnm ht) (RunC.fin RunM.done)
  simpa using this
end Mine
end -- P3
section -- H2
open PySem PySem.W PyProof.Rows PySem.Calls PySem.Spec
namespace Mine
theorem str_ext {x y : Str} (h : x.cps.toList = y.cps.toList) : x = y := by
  cases x; cases y; simp only [Str.mk.injEq]; exact Array.toList_inj.mp h
theorem idx_beyond {n : Nat} {i j : Int} (h : (n : Int) ≤ j) : Builtin.Str.strSliceIndices (some i) (some j) 1 n = Builtin.Str.strSliceIndices (some i) (some (n : Int)) 1 n := by
  unfold Builtin.Str.strSliceIndices
  simp only [show (1 : Int) > 0 by decide, if_true]
  rw [if_neg (show ¬ j < 0 by omega), if_neg (show ¬ (n : Int) < 0 by omega), Int.min_eq_right h, Int.min_self]
theorem slice_nat (x : Str) {a b : Nat} (hab : a ≤ b) (ha : a ≤ x.length) : (Txt.slice x (some (a : Int)) (some (b : Int))).cps.toList = (x.cps.toList.drop a).take (b - a) := by
  by_cases hb : b ≤ x.length
  · show (StrLaws.sliceText x (some (a : Int)) (some (b : Int))).cps.toList = _
    rw [StrLaws.sliceText_nat x hab hb]
  · have e : Txt.slice x (some (a : Int)) (some (b : Int)) = StrLaws.sliceText x (some (a : Int)) (some (x.length : Int)) := by
      unfold Txt.slice StrLaws.sliceText
      rw [idx_beyond (show (x.length : Int) ≤ b by omega)]
    rw [e, StrLaws.sliceText_nat x ha (Nat.le_refl _)]
    show (List.take (x.length - a) (List.drop a x.cps.toList)) = _
    rw [List.take_of_length_le (by simp [Str.length]), List.take_of_length_le (by simp [Str.length] at hb ⊢; omega)]
theorem item_nat (x : Str) {n c : Nat} {rest : List Nat} (h : x.cps.toList.drop n = c :: rest) : Txt.item x (n : Int) = ⟨#[c]⟩ := by
  have hn : n < x.length := by
    rcases Nat.lt_or_ge n x.length with q | q
    · exact q
    · rw [List.drop_eq_nil_of_le (by simpa [Str.length] using q)] at h; cases h
  have hx : x.cps[n]? = some c := by
    rw [← Array.getElem?_toList]
    have : (x.cps.toList.drop n)[0]? = some c := by rw [h]; rfl
    simpa using this
  unfold Txt.item Txt.charAt seqIndex?
  simp only [show ¬ ((n : Int) < 0) by omega, if_false]
  rw [if_pos (by simp; omega)]
  simp [hx]
theorem one_eq (c k : Nat) {x : Str} (h : x = ⟨#[k]⟩) : ((⟨#[c]⟩ : Str) == x) = (c == k) := by
  subst h
  by_cases e : c = k
  · subst e; simp
  · rw [beq_eq_false_iff_ne.mpr e, beq_eq_false_iff_ne]
    intro q
    have := congrArg (fun x : Str => x.cps.toList) q
    exact e (by simpa using this)
theorem slice_add (x : Str) {a : Nat} (k : Nat) (ha : a ≤ x.length) {j : Int} (hj : j = ((a + k : Nat) : Int)) : (Txt.slice x (some (a : Int)) (some j)).cps.toList = (x.cps.toList.drop a).take k := by
  subst hj
  have := slice_nat x (a := a) (b := a + k) (by omega) ha
  rwa [show a + k - a = k by omega] at this
theorem lt_of_drop {x : Str} {n c : Nat} {rest : List Nat} (h : x.cps.toList.drop n = c :: rest) : n < x.length := by
  rcases Nat.lt_or_ge n x.length with q | q
  · exact q
  · rw [List.drop_eq_nil_of_le (by simpa [Str.length] using q)] at h; cases h
theorem inside_val {x : Str} {n c : Nat} {rest : List Nat} (h : x.cps.toList.drop n = c :: rest) (h40 : (Txt.item x (n : Int) == Str.ofString "(") = true) : (Txt.slice x (some (n : Int)) (some ((n : Int) + 2)) != Str.ofString "()") = (c == 40 && rest.head? != some 41) := by
  rw [item_nat x h, one_eq c 40 (by decide)] at h40
  have hc : c = 40 := by simpa using h40
  subst hc
  have hn := lt_of_drop h
  have e := slice_add x (a := n) 2 (by omega) (j := (n : Int) + 2) (by omega)
  rw [h] at e
  cases rest with
  | nil =>
    rw [str_ext (y := ⟨#[40]⟩) e]
    decide
  | cons d r =>
    rw [str_ext (y := ⟨#[40, d]⟩) e]
    by_cases hd : d = 41
    · subst hd; simp only [List.head?_cons]; decide
    · rw [show ((40 : Nat) == 40 && (d :: r).head? != some 41) = true by simpa using hd, bne_iff_ne]
      intro q
      have := congrArg (fun x : Str => x.cps.toList) q
      rw [show (Str.ofString "()").cps.toList = [40, 41] by decide] at this
      exact hd (by simpa using this)
theorem inside_no {x : Str} {n c : Nat} {rest : List Nat} (h : x.cps.toList.drop n = c :: rest) (h40 : (Txt.item x (n : Int) == Str.ofString "(") = false) : (Txt.item x (n : Int) == Str.ofString "(") = (c == 40 && rest.head? != some 41) := by
  rw [h40]
  rw [item_nat x h, one_eq c 40 (by decide)] at h40
  rw [h40]; rfl
end Mine
end -- H2
section -- G5
open PySem PySem.W PyProof.Rows PySem.Calls PySem.Spec
set_option maxHeartbeats 8000000
namespace Mine
variable {w : World} {base : Heap} {p : Program} {loose : List Str} {mean : ExcName → Option Value} {mg mb : Str → Option Value}
local macro_rules | `(tactic| walk_at "eval Name") => `(tactic| (name_kind "local"; (rename Fr _ _ _ _ => F'); with_unfolding_all refine ld F' (by first | assumption | rfl) ?_))
noncomputable def stLoop : Stmt → List Stmt
  | .While _ b _ _ => b
  | _ => []
noncomputable def readStmt : Stmt := nth PySem.Challenge.pw_dw0016_01.main.body 6
noncomputable def rdLoop : List Stmt := stLoop (nth (stBody readStmt) 1)
noncomputable abbrev rdEnv (L : Addr) : Env := envOf (Str.ofString "_law_read") (stScope readStmt) L 71 (Value.ref 70)
section
variable {A : Around} {fr : List Env} {s : Shared} {h₀ h : Heap} {L : Addr} {tk : Nat} {m : Str → Option Value} {news : List (Addr × Obj)} {E : Value → Shared → Prop} {text : Str} {tt ta : Tok} {n : Nat}
theorem rd_inside (X : (hd1.heap_39 w.params).In h₀) (T : Top p loose mean mg mb h₀) (B : Below A base fr h₀) (hh : A.handled = none) (hroom : A.depth + 1 < recursionLimit) (hu : A.units + 60 < cLine) (hlen : text.length ≤ 10000)
    (F : Fr h₀ L h m) (N : News h₀ L h news) (hat : m (Str.ofString "at") = some (Value.int (n : Int) ta)) (htx : m (Str.ofString "text") = some (Value.str text tt)) {c : Nat} {rest : List Nat} (hc : text.cps.toList.drop n = c :: rest) :
    wpAny (model PySem.Challenge.pw_dw0016_01 w) (A.deeper (rdEnv L)) (exec (nth rdLoop 0) (rdEnv L)) (StPost (Str.ofString "inside") (fun _ => Value.bool (c == 40 && rest.head? != some 41)) s h₀ L m news) E { s with heap := h, toks := tk } := by
  have hn := lt_of_drop hc
  show wpAny (model PySem.Challenge.pw_dw0016_01 w) (A.deeper (envOf (Str.ofString "_law_read") (stScope readStmt) L 71 (Value.ref 70))) (exec (nth rdLoop 0) (envOf (Str.ofString "_law_read") (stScope readStmt) L 71 (Value.ref 70))) _ _ _
  conv in (occs := *) (stScope readStmt) => all_goals whnf
  conv in (nth rdLoop 0) => whnf
  k_steps
  · rename Fr _ _ _ _ => F'
    rename News _ _ _ _ => N'
    rename (Txt.item text (n : Int) == Str.ofString "(") = true => hi
    refine ⟨rfl, _, _, 0, rfl, ?_, N'⟩
    rw [← inside_val hc hi]
    exact F'
  · rename Fr _ _ _ _ => F'
    rename News _ _ _ _ => N'
    rename (Txt.item text (n : Int) == Str.ofString "(") = false => hi
    refine ⟨rfl, _, _, 0, rfl, ?_, N'⟩
    rw [← inside_no hc hi]
    exact F'
end
end Mine
end -- G5
section -- H3
open PySem PySem.W PyProof.Rows PySem.Calls PySem.Spec
namespace Mine
section
open PySem.Builtin PySem.Builtin.Str
variable {prog : Program} {w : World} {A : Around} {E : Value → Shared → Prop} {s : Shared} {x y : Str} {t u v : Tok} {i : Int} {Q : Value → Shared → Prop}
theorem gives_index3 (x y : Str) (i : Int) (t u v : Tok) (k : Nat) (rest : List Nat) (h : occurrences x y (fromIndex x.length i) x.length 1 = k :: rest) : Gives («str.index» ⟨[.str x t, .str y u, .int i v], []⟩) (.int k) := by
  show Gives (match occurrences x y (fromIndex x.length i) (min x.length x.length) 1 with | k :: _ => retInt k | [] => (do rule "str.index.not-found"; raiseError "ValueError" "substring not found")) _
  rw [Nat.min_self, h]
  exact .of_eq rfl
theorem index3 {k : Nat} (hk : Txt.find3 x y i = (k : Int)) (hq : Q (.int k s.toks) { s with toks := s.toks + 1 }) : wpAny (model prog w) A (call (.builtin "str.index") [.str x t, .str y u, .int i v]) Q E s := by
  unfold Txt.find3 at hk
  cases ho : occurrences x y (fromIndex x.length i) x.length 1 with
  | nil => rw [ho] at hk; simp at hk
  | cons j r =>
    rw [ho] at hk
    have : j = k := by have h2 : (j : Int) = k := hk; omega
    subst this
    exact call_gives F.slot_str_index (typeIs_str _ _ _) F.entry_str_index (F.args_str_index_3 _ _ _) (gives_index3 x y i t u v j r ho) hq
end
theorem getD_drop {x : Str} {n : Nat} {l : List Nat} (h : x.cps.toList.drop n = l) (j : Nat) : x.cps.getD (n + j) 0 = l.getD j 0 := by
  subst h
  rw [Array.getD_eq_getD_getElem?, ← Array.getElem?_toList, List.getD_eq_getElem?_getD, List.getElem?_drop]
theorem find_eq {x nm : Str} {n : Nat} {r : List Nat} (h : x.cps.toList.drop n = nm.cps.toList ++ 61 :: r) (hn : 61 ∉ nm.cps.toList) : Txt.find3 x (Str.ofString "=") (n : Int) = ((n + nm.length : Nat) : Int) := by
  have hl : x.length - n = nm.length + 1 + r.length := by
    have := congrArg List.length h
    simp only [List.length_drop, List.length_append, List.length_cons] at this
    simp only [Str.length, ← Array.length_toList]
    omega
  have hf : PySem.fromIndex x.length (n : Int) = n := by
    unfold PySem.fromIndex
    rw [if_neg (by omega)]; omega
  rcases StrLaws.find3_spec x 61 (n : Int) with ⟨h1, h2⟩ | ⟨k, h1, h2, h3, h4, h5⟩
  · exfalso
    refine h2 (n + nm.length) (by omega) (by omega) ?_
    rw [getD_drop h, List.getD_eq_getElem?_getD, List.getElem?_append_right (by simp [Str.length])]
    simp [Str.length]
  · rw [show Str.ofString "=" = ⟨#[61]⟩ by decide, h1]
    rw [hf] at h2 h5
    congr 1
    obtain ⟨j, rfl⟩ : ∃ j, k = n + j := ⟨k - n, by omega⟩
    rcases Nat.lt_trichotomy j nm.length with q | q | q
    · exfalso
      rw [getD_drop h, List.getD_eq_getElem?_getD, List.getElem?_append_left (by simpa [Str.length] using q)] at h4
      have : nm.cps.toList[j]? = some 61 := by
        have hj : j < nm.cps.toList.length := by simpa [Str.length] using q
        rw [List.getElem?_eq_getElem hj] at h4 ⊢
        simpa using h4
      exact hn (List.mem_of_getElem? this)
    · rw [q]
    · exfalso
      refine h5 (n + nm.length) (by omega) (by omega) ?_
      rw [getD_drop h, List.getD_eq_getElem?_getD, List.getElem?_append_right (by simp [Str.length])]
      simp [Str.length]
theorem in_digits (c : Nat) : (!(Builtin.Str.occurrences (Str.ofString "0123456789") ⟨#[c]⟩ 0 (Str.ofString "0123456789").length 1).isEmpty) = isDig c := by
  rw [StrLaws.found_one, show (Str.ofString "0123456789").cps.toList = [48, 49, 50, 51, 52, 53, 54, 55, 56, 57] from by decide +kernel, isDig]
  refine decide_eq_decide.mpr ⟨fun h => ?_, fun ⟨a, b⟩ => ?_⟩
  · have all : ∀ x ∈ [48, 49, 50, 51, 52, 53, 54, 55, 56, 57], 48 ≤ x ∧ x ≤ 57 := by decide
    exact all c h
  · have all : ∀ d, d < 10 → 48 + d ∈ [48, 49, 50, 51, 52, 53, 54, 55, 56, 57] := by decide
    have := all (c - 48) (by omega)
    rwa [show 48 + (c - 48) = c by omega] at this
end Mine
end -- H3
section -- G6
open PySem PySem.W PyProof.Rows PySem.Calls PySem.Spec
set_option maxHeartbeats 8000000
namespace Mine
variable {w : World} {base : Heap} {p : Program} {loose : List Str} {mean : ExcName → Option Value} {mg mb : Str → Option Value}
local macro_rules | `(tactic| walk_at "call builtin:list.append cons nil") => `(tactic| refine Mine.Stop.mk ?_)
theorem up_ne {m : Str → Option Value} {x y : Str} {v r : Option Value} (h : m y = r) (hn : y ≠ x) : (fun z => if z = x then v else m z) y = r := by
  show (if y = x then v else m y) = r
  rw [if_neg hn]; exact h
theorem fr_map {h₀ h : Heap} {L : Addr} {m m' : Str → Option Value} (F : Fr h₀ L h m) (e : ∀ y, m y = m' y) : Fr h₀ L h m' := (funext e : m = m') ▸ F
theorem fr_up2 {h₀ h : Heap} {L : Addr} {m : Str → Option Value} {x : Str} {v v' : Option Value} (F : Fr h₀ L h (fun y => if y = x then v else if y = x then v' else m y)) : Fr h₀ L h (fun y => if y = x then v else m y) := fr_map F fun y => by
  by_cases q : y = x
  · rw [if_pos q, if_pos q]
  · rw [if_neg q, if_neg q, if_neg q]
local macro_rules | `(tactic| walk_at "eval Name") => `(tactic| (name_kind "local"; (rename Fr _ _ _ _ => F'); with_unfolding_all refine ld F' (by first | assumption | rfl | exact Mine.up_ne (by assumption) (by decide) | exact Mine.up_ne (Mine.up_ne (by assumption) (by decide)) (by decide)) ?_))
local macro_rules | `(tactic| walk_at "loadName") => `(tactic| ((rename Fr _ _ _ _ => F'); with_unfolding_all refine ldn F' (by first | assumption | rfl | exact Mine.up_ne (by assumption) (by decide) | exact Mine.up_ne (Mine.up_ne (by assumption) (by decide)) (by decide)) ?_))
noncomputable def elseOf : Stmt → List Stmt
  | .If _ _ b _ => b
  | _ => []
noncomputable def rdDig : Stmt := nth (elseOf (nth rdLoop 1)) 1
noncomputable def whTest : Stmt → PySem.Expr
  | .While t _ _ _ => t
  | _ => default
noncomputable abbrev DigRest (w : World) (A : Around) (E : Value → Shared → Prop) (L : Addr) (Q : Flow → Shared → Prop) (s : Shared) : Prop := WhlRest PySem.Challenge.pw_dw0016_01 w A E (rdEnv L) (whTest rdDig) (stLoop rdDig) [] Q 1 s
local macro_rules | `(tactic| walk_at "WhlRest") => `(tactic| refine Mine.Stop.mk ?_)
section
variable {A : Around} {fr : List Env} {s : Shared} {h₀ h : Heap} {L R : Addr} {tk kR : Nat} {m : Str → Option Value} {tl : List (Addr × Obj)} {rv : List Value} {E : Value → Shared → Prop} {Q : Flow → Shared → Prop} {text : Str} {tt ta : Tok} {n : Nat}
theorem rd_open (X : (hd1.heap_39 w.params).In h₀) (T : Top p loose mean mg mb h₀) (B : Below A base fr h₀) (hh : A.handled = none) (hroom : A.depth + 1 < recursionLimit) (hu : A.units + 60 < cLine) (hlen : text.length ≤ 10000)
    (F : Fr h₀ L h m) (N : News h₀ L h ((R, W.listOf rv.toArray kR) :: tl)) (hR : ∀ q ∈ tl, q.1 ≠ R) (hrv : rv.length ≤ 100000) (hrw : m (Str.ofString "rows") = some (Value.ref R)) (hat : m (Str.ofString "at") = some (Value.int (n : Int) ta)) (htx : m (Str.ofString "text") = some (Value.str text tt)) {rest : List Nat} (hc : text.cps.toList.drop n = 40 :: rest)
    (k : ∀ h' tk' l ta', Fr h₀ L h' (fun y => if y = Str.ofString "at" then some (Value.int ((n : Int) + 1) ta') else m y) → News h₀ L h' ((R, W.listOf (rv ++ [Value.ref l]).toArray (kR + 1)) :: (l, W.listOf (List.toArray []) 0) :: tl) → (R < l ∧ ∀ q ∈ tl, q.1 < l) → Q .next { s with heap := h', toks := tk' }) :
    wpAny (model PySem.Challenge.pw_dw0016_01 w) (A.deeper (rdEnv L)) (exec (nth rdLoop 1) (rdEnv L)) Q E { s with heap := h, toks := tk } := by
  have hn := lt_of_drop hc
  have hi : (Txt.item text (n : Int) == Str.ofString "(") = true := by rw [item_nat text hc]; decide
  show wpAny (model PySem.Challenge.pw_dw0016_01 w) (A.deeper (envOf (Str.ofString "_law_read") (stScope readStmt) L 71 (Value.ref 70))) (exec (nth rdLoop 1) (envOf (Str.ofString "_law_read") (stScope readStmt) L 71 (Value.ref 70))) _ _ _
  conv in (occs := *) (stScope readStmt) => all_goals whnf
  conv in (nth rdLoop 1) => whnf
  k_steps
  rename Fr _ _ _ _ => F'
  rename News _ _ _ _ => N'
  rename _ < _ ∧ AllLt _ tl => l1
  refine append_K F' N' (Upd.tail (Nat.ne_of_gt l1.1) (Upd.head hR)) ?_ (by rw [List.size_toArray]; have : sizeLine = 2 ^ 24 := rfl; omega)
  intro h₂ F₂ N₂
  rw [List.push_toArray] at N₂
  clear F' N'
  k_steps
  rename Fr _ _ _ _ => F₃
  rename News _ _ _ _ => N₃
  exact k _ _ _ _ F₃ (news_swap N₃) ⟨l1.1, fun q hq => allLt_mem l1.2 q hq⟩
theorem rd_digits (X : (hd1.heap_39 w.params).In h₀) (T : Top p loose mean mg mb h₀) (B : Below A base fr h₀) (hh : A.handled = none) (hroom : A.depth + 1 < recursionLimit) (hu : A.units + 60 < cLine) (hlen : text.length ≤ 10000) (hE : PassesOwn (model PySem.Challenge.pw_dw0016_01 w) (A.deeper (rdEnv L)) (rdEnv L) E)
    (htx : m (Str.ofString "text") = some (Value.str text tt)) {news : List (Addr × Obj)} {r : List Nat} (hr : ∀ e, r.head? = some e → isDig e = false) : ∀ (d : List Nat) (e : Nat) (h : Heap) (tk : Nat) (te : Tok), text.cps.toList.drop e = d ++ r → (∀ c ∈ d, isDig c = true) →
      Fr h₀ L h (fun y => if y = Str.ofString "end" then some (Value.int (e : Int) te) else m y) → News h₀ L h news →
      (∀ h' tk' te', Fr h₀ L h' (fun y => if y = Str.ofString "end" then some (Value.int ((e + d.length : Nat) : Int) te') else m y) → News h₀ L h' news → Q .next { s with heap := h', toks := tk' }) →
      DigRest w (A.deeper (rdEnv L)) E L Q { s with heap := h, toks := tk }
  | [], e, h, tk, te, hd, hdig, F, N, k => by
    refine whl_turn hE ?_
    simp only [List.nil_append] at hd
    cases r with
    | nil =>
      have hn : text.length ≤ e := by
        have := List.drop_eq_nil_iff.mp hd
        simpa [Str.length] using this
      ((try dsimp only [Mine.rdEnv]); (conv in (occs := *) (Mine.stScope Mine.readStmt) => all_goals whnf); (try (conv in (occs := *) (Mine.whTest Mine.rdDig) => all_goals whnf)); (try (conv in (occs := *) (Mine.stLoop Mine.rdDig) => all_goals whnf)))
      k_steps
      rename Fr _ _ _ _ => F'
      exact k _ _ _ (by simpa using F') (by assumption)
    | cons f r =>
      have hn := lt_of_drop hd
      have hi := in_digits f
      rw [← item_nat text hd, hr f rfl] at hi
      ((try dsimp only [Mine.rdEnv]); (conv in (occs := *) (Mine.stScope Mine.readStmt) => all_goals whnf); (try (conv in (occs := *) (Mine.whTest Mine.rdDig) => all_goals whnf)); (try (conv in (occs := *) (Mine.stLoop Mine.rdDig) => all_goals whnf)))
      k_steps
      rename Fr _ _ _ _ => F'
      exact k _ _ _ (by simpa using F') (by assumption)
  | c :: d, e, h, tk, te, hd, hdig, F, N, k => by
    refine whl_turn hE ?_
    have hn := lt_of_drop hd
    have hi := in_digits c
    rw [← item_nat text hd, hdig c (.head _)] at hi
    ((try dsimp only [Mine.rdEnv]); (conv in (occs := *) (Mine.stScope Mine.readStmt) => all_goals whnf); (try (conv in (occs := *) (Mine.whTest Mine.rdDig) => all_goals whnf)); (try (conv in (occs := *) (Mine.stLoop Mine.rdDig) => all_goals whnf)))
    k_steps
    show WhlRest _ _ _ _ _ _ _ _ _ _ _
    rename Fr _ _ _ _ => F'
    exact rd_digits X T B hh hroom hu hlen hE htx hr d (e + 1) _ _ _ (by rw [← List.drop_drop, hd]; rfl) (fun z hz => hdig z (.tail _ hz)) (fr_up2 F') (by assumption) (fun h' tk' te' F' N' => k h' tk' te' (by rw [List.length_cons, show e + (d.length + 1) = e + 1 + d.length by omega]; exact F') N')
end
end Mine
end -- G6
section -- G7
open PySem PySem.W PyProof.Rows PySem.Calls PySem.Spec
set_option maxHeartbeats 8000000
namespace Mine
variable {w : World} {base : Heap} {p : Program} {loose : List Str} {mean : ExcName → Option Value} {mg mb : Str → Option Value}
local macro_rules | `(tactic| walk_at "subscriptTail Name UnaryOp ref int") => `(tactic| refine Mine.Stop.mk ?_)
local macro_rules | `(tactic| walk_at "call builtin:list.pop cons nil") => `(tactic| refine Mine.Stop.mk ?_)
local macro_rules | `(tactic| walk_at "call type:int cons nil") => `(tactic| refine Mine.Stop.mk ?_)
local macro_rules | `(tactic| walk_at "eval Name") => `(tactic| (name_kind "local"; (rename Fr _ _ _ _ => F'); with_unfolding_all refine ld F' (by first | assumption | rfl | exact Mine.up_ne (by assumption) (by decide) | exact Mine.up_ne (Mine.up_ne (by assumption) (by decide)) (by decide)) ?_))
local macro_rules | `(tactic| walk_at "exec While") => `(tactic| refine Mine.Stop.mk ?_)
section
variable {A : Around} {fr : List Env} {s : Shared} {h₀ h : Heap} {L R Mk l : Addr} {tk kR kM kl : Nat} {m : Str → Option Value} {tl : List (Addr × Obj)} {rv mv lv : List Value} {E : Value → Shared → Prop} {Q : Flow → Shared → Prop} {text : Str} {tt ta : Tok} {n : Nat}
theorem item_last {prog : Program} {value slice : PySem.Expr} {news : List (Addr × Obj)} {u : Tok} {v : Value} {Q : Value → Shared → Prop} (N : News h₀ L s.heap news) (hm : (R, W.listOf (rv ++ [v]).toArray kR) ∈ news) (hfit : rv.length < 2 ^ 60) (h : Q v s)
    (hs : subscripted slice false (.ref R) (.int (-1) u) = operate [.ref R, .int (-1) u] (getItem (.ref R) (.int (-1) u)) := by with_unfolding_all rfl) :
    wpAny (model prog w) A (subscriptTail value slice (.ref R) (.int (-1) u)) Q E s := by
  have hl : s.heap.IsList R (rv ++ [v]).toArray := ⟨_, (N _ hm).1, rfl, _, rfl⟩
  exact tail_any hl.typeIs slot_list_getitem.lookup (wpAny_getItem_list_neg hl (by decide) (by simp; omega) (by decide) (by
    rw [show ((-1 : Int) + ((rv ++ [v]).toArray.size : Int)).toNat = rv.length by simp; omega]
    simp) h) hs
theorem rd_num (X : (hd1.heap_39 w.params).In h₀) (T : Top p loose mean mg mb h₀) (B : Below A base fr h₀) (hh : A.handled = none) (hroom : A.depth + 1 < recursionLimit) (hu : A.units + 60 < cLine) (hlen : text.length ≤ 10000) (hE : PassesOwn (model PySem.Challenge.pw_dw0016_01 w) (A.deeper (rdEnv L)) (rdEnv L) E)
    (F : Fr h₀ L h m) {mk : Str} {tm : Tok} (N : News h₀ L h ((R, W.listOf (rv ++ [Value.ref l]).toArray kR) :: (Mk, W.listOf (mv ++ [Value.str mk tm]).toArray kM) :: (l, W.listOf lv.toArray kl) :: tl)) (hrw : m (Str.ofString "rows") = some (Value.ref R)) (hmk : m (Str.ofString "marks") = some (Value.ref Mk)) (hat : m (Str.ofString "at") = some (Value.int (n : Int) ta)) (htx : m (Str.ofString "text") = some (Value.str text tt))
    (hrv : rv.length ≤ 100000) (hmv : mv.length ≤ 100000) (hlv : lv.length ≤ 100000) (d1 : R ≠ Mk) (d2 : R ≠ l) (d3 : Mk ≠ l) (d4 : ∀ q ∈ tl, q.1 ≠ Mk) (d5 : ∀ q ∈ tl, q.1 ≠ l)
    {c : Nat} {d r : List Nat} {x : Str} {i : Int} (hc : text.cps.toList.drop n = c :: (d ++ r)) (hc40 : c ≠ 40) (hdig : ∀ e ∈ d, isDig e = true) (hr : ∀ e, r.head? = some e → isDig e = false) (hx : x.cps.toList = c :: d) (hxi : PySem.intText? x = some i) (hxl : x.length ≤ 640)
    (k : ∀ h' tk' T ti ta' te', Fr h₀ L h' (fun y => if y = Str.ofString "at" then some (Value.int ((n + 1 + d.length : Nat) : Int) ta') else if y = Str.ofString "end" then some (Value.int ((n + 1 + d.length : Nat) : Int) te') else m y) →
      News h₀ L h' ((T, (⟨.type "tuple", none, .seq #[.str mk tm, .int i ti] 0, #[]⟩ : Obj)) :: (R, W.listOf (rv ++ [Value.ref l]).toArray kR) :: (Mk, W.listOf mv.toArray (kM + 1)) :: (l, W.listOf (lv ++ [Value.ref T]).toArray (kl + 1)) :: tl) → (R < T ∧ Mk < T ∧ l < T ∧ ∀ q ∈ tl, q.1 < T) → Q .next { s with heap := h', toks := tk' }) :
    wpAny (model PySem.Challenge.pw_dw0016_01 w) (A.deeper (rdEnv L)) (exec (nth rdLoop 1) (rdEnv L)) Q E { s with heap := h, toks := tk } := by
  have hn := lt_of_drop hc
  have hi : (Txt.item text (n : Int) == Str.ofString "(") = false := by rw [item_nat text hc, one_eq c 40 (by decide)]; simpa using hc40
  have hdl : n + 1 + d.length ≤ text.length := by
    have := congrArg List.length hc
    simp only [List.length_drop, List.length_append, List.length_cons] at this
    simp only [Str.length, ← Array.length_toList] at hn ⊢
    omega
  have hsl : Txt.slice text (some (n : Int)) (some ((n + 1 + d.length : Nat) : Int)) = x := str_ext (by
    rw [slice_nat text (by omega) (by omega), hc, hx, show n + 1 + d.length - n = d.length + 1 by omega]
    simp)
  ((try dsimp only [Mine.rdEnv]); (conv in (occs := *) (Mine.stScope Mine.readStmt) => all_goals whnf); (try (conv in (occs := *) (Mine.whTest Mine.rdDig) => all_goals whnf)); (try (conv in (occs := *) (Mine.stLoop Mine.rdDig) => all_goals whnf)))
  conv in (nth rdLoop 1) => whnf
  k_steps
  rename Fr _ _ _ _ => F'
  rename News _ _ _ _ => N'
  show wpAny _ _ (exec _ _) _ _ _
  refine whl_start 1 ?_
  refine rd_digits (text := text) (tt := tt) X T B hh hroom hu hlen hE htx hr d (n + 1) _ _ _ (by rw [← List.drop_drop, hc]; rfl) hdig F' N' ?_
  intro h₂ tk₂ te F₂ N₂
  clear F' N'
  k_steps
  rename News _ _ _ _ => N'
  refine item_last N' (.head _) (by omega) ?_
  k_steps
  rename News _ _ _ _ => N'
  rename Fr _ _ _ _ => F'
  refine kl_pop F' N' (p := mv) (y := Value.str mk tm) (by simpa using kpa_last (Value.str mk tm) mv) (Upd.tail d1 (Upd.head (List.forall_mem_cons.mpr ⟨Ne.symm d3, d4⟩))) (by simp [sizeLine_eq]; omega) fun h₄ F' N' => ?_
  k_steps
  rename News _ _ _ _ => N'
  rename Fr _ _ _ _ => F'
  rw [hsl]
  refine KIN.call_text hxi hxl ?_
  k_steps
  rename News _ _ _ _ => N'
  rename Fr _ _ _ _ => F'
  rename _ < _ ∧ _ < _ ∧ _ < _ ∧ AllLt _ tl => l3
  refine append_K F' N' (Upd.tail (Nat.ne_of_gt l3.2.2.1) (Upd.tail d2 (Upd.tail d3 (Upd.head d5)))) ?_ (by rw [List.size_toArray]; have : sizeLine = 2 ^ 24 := rfl; omega)
  intro h₅ F₅ N₅
  rw [List.push_toArray] at N₅
  clear F' N'
  k_steps
  rename News _ _ _ _ => N'
  rename Fr _ _ _ _ => F'
  exact k _ _ _ _ _ _ F' N' ⟨l3.1, l3.2.1, l3.2.2.1, fun q hq => allLt_mem l3.2.2.2 q hq⟩
end
end Mine
end -- G7
section -- G8
open PySem PySem.W PyProof.Rows PySem.Calls PySem.Spec
set_option maxHeartbeats 8000000
namespace Mine
variable {w : World} {base : Heap} {p : Program} {loose : List Str} {mean : ExcName → Option Value} {mg mb : Str → Option Value}
local macro_rules | `(tactic| walk_at "subscriptTail Name UnaryOp ref int") => `(tactic| refine Mine.Stop.mk ?_)
local macro_rules | `(tactic| walk_at "call builtin:len cons nil") => `(tactic| refine Mine.Stop.mk ?_)
local macro_rules | `(tactic| walk_at "call builtin:list.pop cons nil") => `(tactic| refine Mine.Stop.mk ?_)
local macro_rules | `(tactic| walk_at "eval Name") => `(tactic| (name_kind "local"; (rename Fr _ _ _ _ => F'); with_unfolding_all refine ld F' (by first | assumption | rfl | exact Mine.up_ne (by assumption) (by decide) | exact Mine.up_ne (Mine.up_ne (by assumption) (by decide)) (by decide)) ?_))
local macro_rules | `(tactic| walk_at "loadName") => `(tactic| ((rename Fr _ _ _ _ => F'); with_unfolding_all refine ldn F' (by first | assumption | rfl | exact Mine.up_ne (by assumption) (by decide) | exact Mine.up_ne (Mine.up_ne (by assumption) (by decide)) (by decide)) ?_))
local macro_rules | `(tactic| walk_at "rl1") => `(tactic| (try dsimp only [Mine.rdEnv]))
local macro_rules | `(tactic| walk_at "rl2") => `(tactic| (conv in (occs := *) (Mine.stScope Mine.readStmt) => all_goals whnf))
local macro_rules | `(tactic| walk_at "rl3") => `(tactic| (conv in (occs := *) (Mine.whTest Mine.rdDig) => all_goals whnf))
local macro_rules | `(tactic| walk_at "rl4") => `(tactic| (conv in (occs := *) (Mine.stLoop Mine.rdDig) => all_goals whnf))
local macro_rules | `(tactic| walk_at "rl") => `(tactic| (walk_at "rl1"; walk_at "rl2"; (try walk_at "rl3"); (try walk_at "rl4")))
local macro_rules | `(tactic| walk_at "WhlRest") => `(tactic| refine Mine.Stop.mk ?_)
noncomputable def rdCls : Stmt := nth rdLoop 2
noncomputable abbrev ClsRest (w : World) (A : Around) (E : Value → Shared → Prop) (L : Addr) (Q : Flow → Shared → Prop) (s : Shared) : Prop := WhlRest PySem.Challenge.pw_dw0016_01 w A E (rdEnv L) (whTest rdCls) (stLoop rdCls) [] Q 1 s
local macro_rules | `(tactic| walk_at "rl3") => `(tactic| (conv in (occs := *) (Mine.whTest Mine.rdCls) => all_goals whnf))
local macro_rules | `(tactic| walk_at "rl4") => `(tactic| (conv in (occs := *) (Mine.stLoop Mine.rdCls) => all_goals whnf))
section
variable {A : Around} {fr : List Env} {s : Shared} {h₀ h : Heap} {L R Mk a b : Addr} {tk kR kM kb : Nat} {m : Str → Option Value} {tl : List (Addr × Obj)} {rv mv bv : List Value} {E : Value → Shared → Prop} {Q : Flow → Shared → Prop} {text : Str} {tt ta : Tok} {n : Nat}
theorem len_news {prog : Program} {l : Addr} {vs : List Value} {kl : Nat} {news : List (Addr × Obj)} {Q : Value → Shared → Prop} (N : News h₀ L s.heap news) (hm : (l, W.listOf vs.toArray kl) ∈ news) (hfit : vs.length < 2 ^ 60) {j : Nat} (hj : vs.length = j) (h : Q (.int j (s.toks + 1)) { s with toks := s.toks + 1 + 1 }) :
    wpAny (model prog w) A (call (.builtin "len") [.ref l]) Q E s :=
  have hl : s.heap.IsList l vs.toArray := ⟨_, (N _ hm).1, rfl, _, rfl⟩
  call_len_list hl (by rw [List.size_toArray]; omega) (by rw [List.size_toArray, hj]; exact h)
theorem rd_close (X : (hd1.heap_39 w.params).In h₀) (T : Top p loose mean mg mb h₀) (B : Below A base fr h₀) (hh : A.handled = none) (hroom : A.depth + 1 < recursionLimit) (hu : A.units + 60 < cLine) (hlen : text.length ≤ 10000) (hE : PassesOwn (model PySem.Challenge.pw_dw0016_01 w) (A.deeper (rdEnv L)) (rdEnv L) E)
    (F : Fr h₀ L h m) {mk : Str} {tm : Tok} {oa : Obj} (N : News h₀ L h ((R, W.listOf (rv ++ [Value.ref b] ++ [Value.ref a]).toArray kR) :: (Mk, W.listOf (mv ++ [Value.str mk tm]).toArray kM) :: (a, oa) :: (b, W.listOf bv.toArray kb) :: tl)) (hrw : m (Str.ofString "rows") = some (Value.ref R)) (hmk : m (Str.ofString "marks") = some (Value.ref Mk)) (hat : m (Str.ofString "at") = some (Value.int (n : Int) ta)) (htx : m (Str.ofString "text") = some (Value.str text tt))
    (hins : m (Str.ofString "inside") = some (Value.bool false))
    (hrv : rv.length ≤ 100000) (hmv : mv.length ≤ 100000) (hlv : bv.length ≤ 100000) (d1 : R ≠ Mk) (d2 : R ≠ b) (d3 : Mk ≠ b) (d6 : a ≠ R) (d7 : a ≠ Mk) (d8 : a ≠ b) (d4 : ∀ q ∈ tl, q.1 ≠ Mk) (d5 : ∀ q ∈ tl, q.1 ≠ b) (d9 : ∀ q ∈ tl, q.1 ≠ R)
    {r : List Nat} (hc : text.cps.toList.drop n = 41 :: r)
    (k : ∀ h' tk' T ta', Fr h₀ L h' (fun y => if y = Str.ofString "at" then some (Value.int ((n : Int) + 1) ta') else if y = Str.ofString "closed" then some (Value.ref a) else m y) →
      News h₀ L h' ((T, (⟨.type "tuple", none, .seq #[.str mk tm, .ref a] 0, #[]⟩ : Obj)) :: (R, W.listOf (rv ++ [Value.ref b]).toArray (kR + 1)) :: (Mk, W.listOf mv.toArray (kM + 1)) :: (a, oa) :: (b, W.listOf (bv ++ [Value.ref T]).toArray (kb + 1)) :: tl) → (R < T ∧ Mk < T ∧ a < T ∧ b < T ∧ ∀ q ∈ tl, q.1 < T) → ClsRest w (A.deeper (rdEnv L)) E L Q { s with heap := h', toks := tk' }) :
    ClsRest w (A.deeper (rdEnv L)) E L Q { s with heap := h, toks := tk } := by
  have hn := lt_of_drop hc
  have hsl : (Txt.slice text (some (n : Int)) (some ((n : Int) + 1)) == Str.ofString ")") = true := by
    rw [str_ext (x := Txt.slice text (some (n : Int)) (some ((n : Int) + 1))) (y := Str.ofString ")") (by rw [slice_add text 1 (by omega) (by omega), hc]; rfl)]
    decide
  refine whl_turn hE ?_
  walk_at "rl"
  k_steps
  rename News _ _ _ _ => N'
  refine len_news N' (.head _) (by simp; omega) (j := rv.length + 2) (by simp) ?_
  k_steps
  rename News _ _ _ _ => N'
  rename Fr _ _ _ _ => F'
  refine kl_pop F' N' (p := rv ++ [Value.ref b]) (y := Value.ref a) (by simpa using kpa_last (Value.ref a) (rv ++ [Value.ref b])) (Upd.head (List.forall_mem_cons.mpr ⟨Ne.symm d1, List.forall_mem_cons.mpr ⟨d6, List.forall_mem_cons.mpr ⟨Ne.symm d2, d9⟩⟩⟩)) (by simp [sizeLine_eq]; omega) fun h₄ F' N' => ?_
  k_steps
  rename News _ _ _ _ => N'
  refine item_last N' (.head _) (by omega) ?_
  k_steps
  rename News _ _ _ _ => N'
  rename Fr _ _ _ _ => F'
  refine kl_pop F' N' (p := mv) (y := Value.str mk tm) (by simpa using kpa_last (Value.str mk tm) mv) (Upd.tail d1 (Upd.head (List.forall_mem_cons.mpr ⟨d7, List.forall_mem_cons.mpr ⟨Ne.symm d3, d4⟩⟩))) (by simp [sizeLine_eq]; omega) fun h₄ F' N' => ?_
  k_steps
  rename News _ _ _ _ => N'
  rename Fr _ _ _ _ => F'
  rename _ < _ ∧ _ < _ ∧ _ < _ ∧ _ < _ ∧ AllLt _ tl => l3
  refine append_K F' N' (Upd.tail (Nat.ne_of_gt l3.2.2.2.1) (Upd.tail d2 (Upd.tail d3 (Upd.tail d8 (Upd.head d5))))) ?_ (by rw [List.size_toArray]; have : sizeLine = 2 ^ 24 := rfl; omega)
  intro h₅ F₅ N₅
  rw [List.push_toArray] at N₅
  clear F' N'
  k_steps
  rename News _ _ _ _ => N'
  rename Fr _ _ _ _ => F'
  exact k _ _ _ _ F' N' ⟨l3.1, l3.2.1, l3.2.2.1, l3.2.2.2.1, fun q hq => allLt_mem l3.2.2.2.2 q hq⟩
end
end Mine
end -- G8
section -- G9
open PySem PySem.W PyProof.Rows PySem.Calls PySem.Spec
set_option maxHeartbeats 8000000
namespace Mine
variable {w : World} {base : Heap} {p : Program} {loose : List Str} {mean : ExcName → Option Value} {mg mb : Str → Option Value}
local macro_rules | `(tactic| walk_at "call builtin:str.index cons nil") => `(tactic| refine Mine.Stop.mk ?_)
local macro_rules | `(tactic| walk_at "call builtin:list.append cons nil") => `(tactic| refine Mine.Stop.mk ?_)
local macro_rules | `(tactic| walk_at "eval Name") => `(tactic| (name_kind "local"; (rename Fr _ _ _ _ => F'); with_unfolding_all refine ld F' (by first | assumption | rfl | exact Mine.up_ne (by assumption) (by decide) | exact Mine.up_ne (Mine.up_ne (by assumption) (by decide)) (by decide)) ?_))
local macro_rules | `(tactic| walk_at "rl1") => `(tactic| (try dsimp only [Mine.rdEnv]))
local macro_rules | `(tactic| walk_at "rl2") => `(tactic| (conv in (occs := *) (Mine.stScope Mine.readStmt) => all_goals whnf))
local macro_rules | `(tactic| walk_at "rl3") => `(tactic| (conv in (occs := *) (Mine.whTest Mine.rdDig) => all_goals whnf))
local macro_rules | `(tactic| walk_at "rl4") => `(tactic| (conv in (occs := *) (Mine.stLoop Mine.rdDig) => all_goals whnf))
local macro_rules | `(tactic| walk_at "rl") => `(tactic| (walk_at "rl1"; walk_at "rl2"; (try walk_at "rl3"); (try walk_at "rl4")))
local macro_rules | `(tactic| walk_at "rl3") => `(tactic| (conv in (occs := *) (Mine.whTest Mine.rdCls) => all_goals whnf))
local macro_rules | `(tactic| walk_at "rl4") => `(tactic| (conv in (occs := *) (Mine.stLoop Mine.rdCls) => all_goals whnf))
section
variable {A : Around} {fr : List Env} {s : Shared} {h₀ h : Heap} {L R Mk a b : Addr} {tk kR kM kb : Nat} {m : Str → Option Value} {tl : List (Addr × Obj)} {rv mv bv : List Value} {E : Value → Shared → Prop} {Q : Flow → Shared → Prop} {text : Str} {tt ta : Tok} {n : Nat}
theorem rd_stop (X : (hd1.heap_39 w.params).In h₀) (T : Top p loose mean mg mb h₀) (B : Below A base fr h₀) (hh : A.handled = none) (hroom : A.depth + 1 < recursionLimit) (hu : A.units + 60 < cLine) (hlen : text.length ≤ 10000) (hE : PassesOwn (model PySem.Challenge.pw_dw0016_01 w) (A.deeper (rdEnv L)) (rdEnv L) E)
    (F : Fr h₀ L h m) (N : News h₀ L h ((R, W.listOf rv.toArray kR) :: tl)) (hrv : rv.length ≤ 100000) (hrw : m (Str.ofString "rows") = some (Value.ref R)) (hat : m (Str.ofString "at") = some (Value.int (n : Int) ta)) (htx : m (Str.ofString "text") = some (Value.str text tt))
    (hins : m (Str.ofString "inside") = some (Value.bool false)) (hn : n ≤ text.length) (hc : (text.cps.toList.drop n).head? ≠ some 41)
    (k : ∀ h' tk', Fr h₀ L h' m → News h₀ L h' ((R, W.listOf rv.toArray kR) :: tl) → Q .next { s with heap := h', toks := tk' }) :
    ClsRest w (A.deeper (rdEnv L)) E L Q { s with heap := h, toks := tk } := by
  have hsl : (Txt.slice text (some (n : Int)) (some ((n : Int) + 1)) == Str.ofString ")") = false := by
    rw [beq_eq_false_iff_ne]
    intro e
    have e2 := slice_add text (a := n) 1 hn (j := (n : Int) + 1) (by omega)
    rw [e] at e2
    cases q : text.cps.toList.drop n with
    | nil => rw [q] at e2; simp at e2; exact absurd e2 (by decide)
    | cons c r =>
      rw [q] at e2 hc
      have : c = 41 := by
        have e3 : [41] = [c] := e2
        simpa using e3.symm
      exact hc (by rw [this]; rfl)
  refine whl_turn hE ?_
  walk_at "rl"
  k_steps
  rename News _ _ _ _ => N'
  refine len_news N' (.head _) (by omega) (j := rv.length) (by simp) ?_
  k_steps
  all_goals exact k _ _ (by assumption) (by assumption)
theorem rd_skip (X : (hd1.heap_39 w.params).In h₀) (T : Top p loose mean mg mb h₀) (B : Below A base fr h₀) (hh : A.handled = none) (hroom : A.depth + 1 < recursionLimit) (hu : A.units + 60 < cLine) (hlen : text.length ≤ 10000) (hE : PassesOwn (model PySem.Challenge.pw_dw0016_01 w) (A.deeper (rdEnv L)) (rdEnv L) E) {news : List (Addr × Obj)}
    (F : Fr h₀ L h m) (N : News h₀ L h news)
    (hins : m (Str.ofString "inside") = some (Value.bool true))
    (k : ∀ h' tk', Fr h₀ L h' m → News h₀ L h' news → Q .next { s with heap := h', toks := tk' }) :
    ClsRest w (A.deeper (rdEnv L)) E L Q { s with heap := h, toks := tk } := by
  refine whl_turn hE ?_
  walk_at "rl"
  k_steps
  all_goals exact k _ _ (by assumption) (by assumption)
theorem rd_fin (X : (hd1.heap_39 w.params).In h₀) (T : Top p loose mean mg mb h₀) (B : Below A base fr h₀) (hh : A.handled = none) (hroom : A.depth + 1 < recursionLimit) (hu : A.units + 60 < cLine) (hlen : text.length ≤ 10000) {news : List (Addr × Obj)}
    (F : Fr h₀ L h m) (N : News h₀ L h news) (hat : m (Str.ofString "at") = some (Value.int (n : Int) ta)) (htx : m (Str.ofString "text") = some (Value.str text tt)) (hn : text.length ≤ n)
    (k : ∀ h' tk', Fr h₀ L h' m → News h₀ L h' news → Q .next { s with heap := h', toks := tk' }) :
    wpAny (model PySem.Challenge.pw_dw0016_01 w) (A.deeper (rdEnv L)) (exec (nth rdLoop 3) (rdEnv L)) Q E { s with heap := h, toks := tk } := by
  walk_at "rl"
  conv in (nth rdLoop 3) => whnf
  k_steps
  all_goals exact k _ _ (by assumption) (by assumption)
theorem rd_mark (X : (hd1.heap_39 w.params).In h₀) (T : Top p loose mean mg mb h₀) (B : Below A base fr h₀) (hh : A.handled = none) (hroom : A.depth + 1 < recursionLimit) (hu : A.units + 60 < cLine) (hlen : text.length ≤ 10000)
    (F : Fr h₀ L h m) (N : News h₀ L h ((Mk, W.listOf mv.toArray kM) :: tl)) (hmv : mv.length ≤ 100000) (hM : ∀ q ∈ tl, q.1 ≠ Mk) (hmk : m (Str.ofString "marks") = some (Value.ref Mk)) (hat : m (Str.ofString "at") = some (Value.int (n : Int) ta)) (htx : m (Str.ofString "text") = some (Value.str text tt)) {ins : Bool} (hins : m (Str.ofString "inside") = some (Value.bool ins))
    {nm : Str} {r : List Nat} (hc : text.cps.toList.drop n = (if ins then [] else [44, 32]) ++ (nm.cps.toList ++ 61 :: r)) (hnm : 61 ∉ nm.cps.toList)
    (k : ∀ h' tk' tn ta' ts, Fr h₀ L h' (fun y => if y = Str.ofString "at" then some (Value.int ((n + (if ins then 0 else 2) + nm.length + 1 : Nat) : Int) ta') else if y = Str.ofString "start" then some (Value.int ((n + (if ins then 0 else 2) : Nat) : Int) ts) else m y) →
      News h₀ L h' ((Mk, W.listOf (mv ++ [Value.str nm tn]).toArray (kM + 1)) :: tl) → Q .next { s with heap := h', toks := tk' }) :
    wpAny (model PySem.Challenge.pw_dw0016_01 w) (A.deeper (rdEnv L)) (exec (nth rdLoop 3) (rdEnv L)) Q E { s with heap := h, toks := tk } := by
  have hn : n < text.length := by
    cases ins
    · exact lt_of_drop hc
    · cases q : nm.cps.toList with
      | nil => rw [q] at hc; exact lt_of_drop hc
      | cons c d => rw [q] at hc; exact lt_of_drop hc
  walk_at "rl"
  conv in (nth rdLoop 3) => whnf
  have hnl : nm.cps.toList.length = nm.length := by simp [Str.length]
  have htl : text.cps.toList.length = text.length := by simp [Str.length]
  have hfit : n + (if ins then 0 else 2) + nm.length + 1 ≤ text.length := by
    have := congrArg List.length hc
    rw [List.length_drop, List.length_append, List.length_append, List.length_cons, hnl, htl] at this
    cases ins <;> simp at this ⊢ <;> omega
  cases ins
  · have hs2 : Txt.slice text (some (n : Int)) (some ((n : Int) + 2)) = Str.ofString ", " := str_ext (by rw [slice_add text 2 (by omega) (by omega), hc]; rfl)
    have hany : ([Str.ofString "", Str.ofString ", "].any fun x => x == Txt.slice text (some (n : Int)) (some ((n : Int) + 2))) = true := by rw [hs2]; decide
    have hd2 : text.cps.toList.drop (n + 2) = nm.cps.toList ++ 61 :: r := by rw [← List.drop_drop, hc]; rfl
    have hsm : Txt.slice text (some ((n : Int) + 2)) (some (((n + 2 + nm.length : Nat) : Int) + 1 - 1)) = nm := str_ext (by
      rw [show ((n : Int) + 2) = ((n + 2 : Nat) : Int) from rfl, slice_add text nm.length (by simp at hfit; omega) (by omega), hd2, ← hnl, List.take_left])
    k_steps
    show wpAny _ _ _ _ _ _
    refine index3 (k := n + 2 + nm.length) (find_eq hd2 hnm) ?_
    k_steps
    rw [hsm]
    rename News _ _ _ _ => N'
    rename Fr _ _ _ _ => F'
    rename _ < _ ∧ AllLt _ tl => l3
    refine append_K F' N' (Upd.tail (Nat.ne_of_gt l3.1) (Upd.head hM)) ?_ (by rw [List.size_toArray]; have : sizeLine = 2 ^ 24 := rfl; omega)
    intro h₅ F₅ N₅
    rw [List.push_toArray] at N₅
    clear F' N'
    k_steps
    exact k _ _ _ _ _ F₅ (news_sub N₅ fun z hz => .tail _ hz)
  · have hs2 : Txt.slice text (some (n : Int)) (some (n : Int)) = Str.ofString "" := str_ext (by rw [slice_add text 0 (by omega) (by omega), hc]; rfl)
    have hany : ([Str.ofString "", Str.ofString ", "].any fun x => x == Txt.slice text (some (n : Int)) (some (n : Int))) = true := by rw [hs2]; decide
    have hd2 : text.cps.toList.drop n = nm.cps.toList ++ 61 :: r := hc
    have hsm : Txt.slice text (some (n : Int)) (some (((n + nm.length : Nat) : Int) + 1 - 1)) = nm := str_ext (by
      rw [slice_add text nm.length (by omega) (by omega), hd2, ← hnl, List.take_left])
    k_steps
    show wpAny _ _ _ _ _ _
    refine index3 (k := n + nm.length) (find_eq hd2 hnm) ?_
    k_steps
    rw [hsm]
    rename News _ _ _ _ => N'
    rename Fr _ _ _ _ => F'
    rename _ < _ ∧ AllLt _ tl => l3
    refine append_K F' N' (Upd.tail (Nat.ne_of_gt l3.1) (Upd.head hM)) ?_ (by rw [List.size_toArray]; have : sizeLine = 2 ^ 24 := rfl; omega)
    intro h₅ F₅ N₅
    rw [List.push_toArray] at N₅
    clear F' N'
    k_steps
    exact k _ _ _ _ _ F₅ (news_sub N₅ fun z hz => .tail _ hz)
end
end Mine
end -- G9
section -- H4
open PySem PySem.W PyProof.Rows PySem.Calls PySem.Spec
namespace Mine
inductive Rel2 {α β : Type} (P : α → β → Prop) : List α → List β → Prop
  | nil : Rel2 P [] []
  | cons {a b as bs} : P a b → Rel2 P as bs → Rel2 P (a :: as) (b :: bs)
theorem Rel2.mono {α β : Type} {P P' : α → β → Prop} {as : List α} {bs : List β} (h : Rel2 P as bs) (f : ∀ a b, P a b → P' a b) : Rel2 P' as bs := by
  induction h with
  | nil => exact .nil
  | cons p _ ih => exact .cons (f _ _ p) ih
noncomputable abbrev Open := Addr × List Value × Nat
noncomputable def opObj (o : Open) : Addr × Obj := (o.1, W.listOf o.2.1.toArray o.2.2)
noncomputable def opRefs (ops : List Open) : List Value := ops.reverse.map fun o => Value.ref o.1
theorem opRefs_cons (o : Open) (ops : List Open) : opRefs (o :: ops) = opRefs ops ++ [Value.ref o.1] := by simp [opRefs]
theorem opRefs_len (ops : List Open) : (opRefs ops).length = ops.length := by simp [opRefs]
/-- the reader's state -/
structure RdSt (h₀ : Heap) (L : Addr) (text : Str) (R Mk : Addr) (rest : List Nat) (rowsD : List (List PyData)) (marks : List Str) (h : Heap) (m : Str → Option Value) (n kR kM : Nat) (ops : List Open) (mv : List Value) (fz : List (Addr × Obj)) : Prop where
  F : Fr h₀ L h m
  N : News h₀ L h ((R, W.listOf (opRefs ops).toArray kR) :: (Mk, W.listOf mv.reverse.toArray kM) :: (ops.map opObj ++ fz))
  d0 : (R :: Mk :: ops.map (·.1)).Nodup
  d1 : ∀ q ∈ fz, q.1 ∉ R :: Mk :: ops.map (·.1)
  hat : ∃ ta, m (Str.ofString "at") = some (Value.int (n : Int) ta)
  htx : ∃ tt, m (Str.ofString "text") = some (Value.str text tt)
  hrw : m (Str.ofString "rows") = some (Value.ref R)
  hmk : m (Str.ofString "marks") = some (Value.ref Mk)
  hdr : text.cps.toList.drop n = rest
  hle : n ≤ text.length
  data : Rel2 (fun o ds => ViaAll fz o.2.1 ds) ops rowsD
  mks : Rel2 (fun v x => ∃ t, v = Value.str x t) mv marks
  b1 : ops.length ≤ n + 1
  b2 : mv.length ≤ n + 1
  b3 : ∀ o ∈ ops, o.2.1.length ≤ n + 1
theorem RdSt.tl_R {h₀ h : Heap} {L : Addr} {text : Str} {R Mk : Addr} {rest : List Nat} {rowsD : List (List PyData)} {marks : List Str} {m : Str → Option Value} {n kR kM : Nat} {ops : List Open} {mv : List Value} {fz : List (Addr × Obj)}
    (S : RdSt h₀ L text R Mk rest rowsD marks h m n kR kM ops mv fz) : ∀ q ∈ (Mk, W.listOf mv.reverse.toArray kM) :: (ops.map opObj ++ fz), q.1 ≠ R := by
  have hd := List.nodup_cons.mp S.d0
  intro q hq e
  rcases List.mem_cons.mp hq with rfl | hq
  · exact hd.1 (e ▸ .head _)
  · rcases List.mem_append.mp hq with hq | hq
    · obtain ⟨o, ho, rfl⟩ := List.mem_map.mp hq
      exact hd.1 (e ▸ .tail _ (List.mem_map_of_mem (f := fun x : Open => x.1) ho))
    · exact S.d1 q hq (e ▸ .head _)
theorem RdSt.tl_M {h₀ h : Heap} {L : Addr} {text : Str} {R Mk : Addr} {rest : List Nat} {rowsD : List (List PyData)} {marks : List Str} {m : Str → Option Value} {n kR kM : Nat} {ops : List Open} {mv : List Value} {fz : List (Addr × Obj)}
    (S : RdSt h₀ L text R Mk rest rowsD marks h m n kR kM ops mv fz) : ∀ q ∈ (R, W.listOf (opRefs ops).toArray kR) :: (ops.map opObj ++ fz), q.1 ≠ Mk := by
  have hd := List.nodup_cons.mp S.d0
  have hd2 := List.nodup_cons.mp hd.2
  intro q hq e
  rcases List.mem_cons.mp hq with rfl | hq
  · exact hd.1 (e ▸ .head _)
  · rcases List.mem_append.mp hq with hq | hq
    · obtain ⟨o, ho, rfl⟩ := List.mem_map.mp hq
      exact hd2.1 (e ▸ (List.mem_map_of_mem ho : o.1 ∈ ops.map (·.1)))
    · exact S.d1 q hq (e ▸ .tail _ (.head _))
section
variable {h₀ h h' : Heap} {L : Addr} {text : Str} {R Mk : Addr} {rest : List Nat} {rowsD : List (List PyData)} {marks : List Str} {m m' : Str → Option Value} {n n' kR kM : Nat} {ops : List Open} {mv : List Value} {fz : List (Addr × Obj)}
theorem drop_next {text : Str} {n c : Nat} {rest : List Nat} (h : text.cps.toList.drop n = c :: rest) : text.cps.toList.drop (n + 1) = rest := by rw [← List.drop_drop, h]; rfl
/-- nothing but the names' places has changed -/
theorem RdSt.same (S : RdSt h₀ L text R Mk rest rowsD marks h m n kR kM ops mv fz) (F : Fr h₀ L h' m') (N : News h₀ L h' ((R, W.listOf (opRefs ops).toArray kR) :: (Mk, W.listOf mv.reverse.toArray kM) :: (ops.map opObj ++ fz)))
    (e1 : m' (Str.ofString "at") = m (Str.ofString "at")) (e2 : m' (Str.ofString "text") = m (Str.ofString "text")) (e3 : m' (Str.ofString "rows") = m (Str.ofString "rows")) (e4 : m' (Str.ofString "marks") = m (Str.ofString "marks")) : RdSt h₀ L text R Mk rest rowsD marks h' m' n kR kM ops mv fz :=
  { S with F := F, N := N, hat := e1 ▸ S.hat, htx := e2 ▸ S.htx, hrw := e3 ▸ S.hrw, hmk := e4 ▸ S.hmk }
theorem RdSt.opn {c : Nat} {l : Addr} {ta : Tok} (S : RdSt h₀ L text R Mk (c :: rest) rowsD marks h m n kR kM ops mv fz) (F : Fr h₀ L h' (fun y => if y = Str.ofString "at" then some (Value.int ((n : Int) + 1) ta) else m y))
    (N : News h₀ L h' ((R, W.listOf (opRefs ops ++ [Value.ref l]).toArray (kR + 1)) :: (l, W.listOf (List.toArray []) 0) :: (Mk, W.listOf mv.reverse.toArray kM) :: (ops.map opObj ++ fz))) (hl : R < l ∧ ∀ q ∈ (Mk, W.listOf mv.reverse.toArray kM) :: (ops.map opObj ++ fz), q.1 < l) :
    RdSt h₀ L text R Mk rest ([] :: rowsD) marks h' (fun y => if y = Str.ofString "at" then some (Value.int ((n : Int) + 1) ta) else m y) (n + 1) (kR + 1) kM ((l, [], 0) :: ops) mv fz := by
  have hlt := lt_of_drop S.hdr
  have hd := List.nodup_cons.mp S.d0
  have hd2 := List.nodup_cons.mp hd.2
  have hlM : Mk < l := hl.2 (Mk, W.listOf mv.reverse.toArray kM) (.head _)
  have hlo : l ∉ ops.map (·.1) := fun hm => by
    obtain ⟨o, ho, e⟩ := List.mem_map.mp hm
    have : o.1 < l := hl.2 (opObj o) (.tail _ (List.mem_append_left _ (List.mem_map_of_mem ho)))
    exact absurd e (Nat.ne_of_lt this)
  refine { F := F, N := ?_, d0 := ?_, d1 := ?_, hat := ⟨ta, rfl⟩, htx := ?_, hrw := up_ne S.hrw (by decide), hmk := up_ne S.hmk (by decide), hdr := drop_next S.hdr, hle := hlt, data := .cons (fun h _ => ⟨_, .nil⟩) S.data, mks := S.mks, b1 := ?_, b2 := by have := S.b2; omega, b3 := ?_ }
  · refine news_sub N fun z hz => ?_
    rw [opRefs_cons] at hz
    simp only [List.map_cons, List.cons_append, List.mem_cons] at hz ⊢
    rcases hz with h | h | h | h
    · exact .inl h
    · exact .inr (.inr (.inl h))
    · exact .inr (.inl h)
    · exact .inr (.inr (.inr h))
  · simp only [List.map_cons, List.nodup_cons, List.mem_cons, not_or]
    exact ⟨⟨fun e => hd.1 (e ▸ .head _), Nat.ne_of_lt hl.1, fun h => hd.1 (.tail _ h)⟩, ⟨Nat.ne_of_lt hlM, hd2.1⟩, hlo, hd2.2⟩
  · intro q hq
    have h1 := S.d1 q hq
    have h2 : q.1 < l := hl.2 q (.tail _ (List.mem_append_right _ hq))
    simp only [List.map_cons, List.mem_cons, not_or] at h1 ⊢
    exact ⟨h1.1, h1.2.1, Nat.ne_of_lt h2, h1.2.2⟩
  · obtain ⟨tt, e⟩ := S.htx
    exact ⟨tt, up_ne e (by decide)⟩
  · have := S.b1; simp; omega
  · intro o ho
    rcases List.mem_cons.mp ho with rfl | ho
    · simp
    · have := S.b3 o ho; omega
theorem RdSt.num {l T : Addr} {lv : List Value} {kl : Nat} {top : List PyData} {mk : Str} {tm ti : Tok} {i : Int} {rest' : List Nat} (S : RdSt h₀ L text R Mk rest (top :: rowsD) (mk :: marks) h m n kR kM ((l, lv, kl) :: ops) (Value.str mk tm :: mv) fz) (F : Fr h₀ L h' m')
    (N : News h₀ L h' ((T, (⟨.type "tuple", none, .seq #[.str mk tm, .int i ti] 0, #[]⟩ : Obj)) :: (R, W.listOf (opRefs ops ++ [Value.ref l]).toArray kR) :: (Mk, W.listOf mv.reverse.toArray (kM + 1)) :: (l, W.listOf (lv ++ [Value.ref T]).toArray (kl + 1)) :: (ops.map opObj ++ fz)))
    (hl : R < T ∧ Mk < T ∧ l < T ∧ ∀ q ∈ ops.map opObj ++ fz, q.1 < T) (hn : n < n') (hle : n' ≤ text.length) (hdr : text.cps.toList.drop n' = rest')
    (e1 : ∃ ta, m' (Str.ofString "at") = some (Value.int (n' : Int) ta)) (e2 : m' (Str.ofString "text") = m (Str.ofString "text")) (e3 : m' (Str.ofString "rows") = m (Str.ofString "rows")) (e4 : m' (Str.ofString "marks") = m (Str.ofString "marks")) :
    RdSt h₀ L text R Mk rest' ((top ++ [.tuple [.str mk, .int i]]) :: rowsD) marks h' m' n' kR (kM + 1) ((l, lv ++ [Value.ref T], kl + 1) :: ops) mv ((T, (⟨.type "tuple", none, .seq #[.str mk tm, .int i ti] 0, #[]⟩ : Obj)) :: fz) := by
  cases S.data with
  | cons p q =>
  cases S.mks with
  | cons p' q' =>
  refine { F := F, N := ?_, d0 := S.d0, d1 := ?_, hat := e1, htx := e2 ▸ S.htx, hrw := e3 ▸ S.hrw, hmk := e4 ▸ S.hmk, hdr := hdr, hle := hle, data := .cons ?_ (q.mono fun o ds v h hh => v h fun z hz => hh z (.tail _ hz)), mks := q', b1 := ?_, b2 := ?_, b3 := ?_ }
  · refine news_sub N fun z hz => ?_
    rw [opRefs_cons] at hz
    simp only [List.map_cons, List.cons_append, List.mem_cons, List.mem_append] at hz ⊢
    rcases hz with h | h | h | h | h | h
    · exact .inr (.inl h)
    · exact .inr (.inr (.inl h))
    · exact .inr (.inr (.inr (.inl h)))
    · exact .inr (.inr (.inr (.inr (.inl h))))
    · exact .inl h
    · exact .inr (.inr (.inr (.inr (.inr h))))
  · intro z hz
    rcases List.mem_cons.mp hz with rfl | hz
    · simp only [List.map_cons, List.mem_cons, not_or]
      refine ⟨Nat.ne_of_gt hl.1, Nat.ne_of_gt hl.2.1, Nat.ne_of_gt hl.2.2.1, fun hm => ?_⟩
      obtain ⟨o, ho, e⟩ := List.mem_map.mp hm
      have : o.1 < T := hl.2.2.2 (opObj o) (List.mem_append_left _ (List.mem_map_of_mem ho))
      exact absurd e (Nat.ne_of_lt this)
    · exact S.d1 z hz
  · exact ViaAll.snoc p (Via.pair (Via.int _ i ti) (.head _)) fun z hz => .tail _ hz
  · have := S.b1; simp at this ⊢; omega
  · have := S.b2; simp at this ⊢; omega
  · intro o ho
    rcases List.mem_cons.mp ho with rfl | ho
    · have := S.b3 _ (.head _); simp at this ⊢; omega
    · have := S.b3 o (.tail _ ho); omega
theorem RdSt.close {a b T : Addr} {av bv : List Value} {ka kb : Nat} {ad bd : List PyData} {mk : Str} {tm ta : Tok} {c : Nat} (S : RdSt h₀ L text R Mk (c :: rest) (ad :: bd :: rowsD) (mk :: marks) h m n kR kM ((a, av, ka) :: (b, bv, kb) :: ops) (Value.str mk tm :: mv) fz) (F : Fr h₀ L h' m')
    (N : News h₀ L h' ((T, (⟨.type "tuple", none, .seq #[.str mk tm, .ref a] 0, #[]⟩ : Obj)) :: (R, W.listOf (opRefs ops ++ [Value.ref b]).toArray (kR + 1)) :: (Mk, W.listOf mv.reverse.toArray (kM + 1)) :: opObj (a, av, ka) :: (b, W.listOf (bv ++ [Value.ref T]).toArray (kb + 1)) :: (ops.map opObj ++ fz)))
    (hl : R < T ∧ Mk < T ∧ a < T ∧ b < T ∧ ∀ q ∈ ops.map opObj ++ fz, q.1 < T)
    (e1 : m' (Str.ofString "at") = some (Value.int ((n : Int) + 1) ta)) (e2 : m' (Str.ofString "text") = m (Str.ofString "text")) (e3 : m' (Str.ofString "rows") = m (Str.ofString "rows")) (e4 : m' (Str.ofString "marks") = m (Str.ofString "marks")) :
    RdSt h₀ L text R Mk rest ((bd ++ [.tuple [.str mk, .list ad]]) :: rowsD) marks h' m' (n + 1) (kR + 1) (kM + 1) ((b, bv ++ [Value.ref T], kb + 1) :: ops) mv ((T, (⟨.type "tuple", none, .seq #[.str mk tm, .ref a] 0, #[]⟩ : Obj)) :: opObj (a, av, ka) :: fz) := by
  have hlt := lt_of_drop S.hdr
  have hd0 := S.d0
  simp only [List.map_cons, List.nodup_cons, List.mem_cons, not_or] at hd0
  obtain ⟨⟨x1, x2, x3, x4⟩, ⟨x5, x6, x7⟩, ⟨x8, x9⟩, x10, x11⟩ := hd0
  cases S.data with
  | cons p q =>
  cases q with
  | cons p2 q =>
  cases S.mks with
  | cons p' q' =>
  refine { F := F, N := ?_, d0 := ?_, d1 := ?_, hat := ⟨_, e1⟩, htx := e2 ▸ S.htx, hrw := e3 ▸ S.hrw, hmk := e4 ▸ S.hmk, hdr := drop_next S.hdr, hle := hlt, data := .cons ?_ (q.mono fun o ds v h hh => v h fun z hz => hh z (.tail _ (.tail _ hz))), mks := q', b1 := ?_, b2 := ?_, b3 := ?_ }
  · refine news_sub N fun z hz => ?_
    rw [opRefs_cons] at hz
    simp only [List.map_cons, List.cons_append, List.mem_cons, List.mem_append] at hz ⊢
    rcases hz with h | h | h | h | h | h | h
    · exact .inr (.inl h)
    · exact .inr (.inr (.inl h))
    · exact .inr (.inr (.inr (.inr (.inl h))))
    · exact .inr (.inr (.inr (.inr (.inr (.inl h)))))
    · exact .inl h
    · exact .inr (.inr (.inr (.inl h)))
    · exact .inr (.inr (.inr (.inr (.inr (.inr h)))))
  · simp only [List.map_cons, List.nodup_cons, List.mem_cons, not_or]
    exact ⟨⟨x1, x3, x4⟩, ⟨x6, x7⟩, x10, x11⟩
  · intro z hz
    rcases List.mem_cons.mp hz with rfl | hz
    · simp only [List.map_cons, List.mem_cons, not_or]
      refine ⟨Nat.ne_of_gt hl.1, Nat.ne_of_gt hl.2.1, Nat.ne_of_gt hl.2.2.2.1, fun hm => ?_⟩
      obtain ⟨o, ho, e⟩ := List.mem_map.mp hm
      have : o.1 < T := hl.2.2.2.2 (opObj o) (List.mem_append_left _ (List.mem_map_of_mem ho))
      exact absurd e (Nat.ne_of_lt this)
    · rcases List.mem_cons.mp hz with rfl | hz
      · simp only [List.map_cons, List.mem_cons, not_or, opObj]
        exact ⟨fun e => x2 e.symm, fun e => x5 e.symm, x8, x9⟩
      · have := S.d1 z hz
        simp only [List.map_cons, List.mem_cons, not_or] at this ⊢
        exact ⟨this.1, this.2.1, this.2.2.2⟩
  · refine ViaAll.snoc p2 (Via.pair (Via.list (k := ka) p ?_ ?_) (.head _)) fun z hz => .tail _ (.tail _ hz)
    · exact fun z hz => .tail _ (.tail _ hz)
    · exact .tail _ (.head _)
  · have := S.b1; simp at this ⊢; omega
  · have := S.b2; simp at this ⊢; omega
  · intro o ho
    rcases List.mem_cons.mp ho with rfl | ho
    · have := S.b3 _ (.tail _ (.head _)); simp at this ⊢; omega
    · have := S.b3 o (.tail _ (.tail _ ho)); omega
theorem RdSt.mark {nm : Str} {tn : Tok} {rest' : List Nat} (S : RdSt h₀ L text R Mk rest rowsD marks h m n kR kM ops mv fz) (F : Fr h₀ L h' m')
    (N : News h₀ L h' ((Mk, W.listOf (mv.reverse ++ [Value.str nm tn]).toArray (kM + 1)) :: (R, W.listOf (opRefs ops).toArray kR) :: (ops.map opObj ++ fz)))
    (hn : n < n') (hle : n' ≤ text.length) (hdr : text.cps.toList.drop n' = rest')
    (e1 : ∃ ta, m' (Str.ofString "at") = some (Value.int (n' : Int) ta)) (e2 : m' (Str.ofString "text") = m (Str.ofString "text")) (e3 : m' (Str.ofString "rows") = m (Str.ofString "rows")) (e4 : m' (Str.ofString "marks") = m (Str.ofString "marks")) :
    RdSt h₀ L text R Mk rest' rowsD (nm :: marks) h' m' n' kR (kM + 1) ops (Value.str nm tn :: mv) fz := by
  refine { F := F, N := ?_, d0 := S.d0, d1 := S.d1, hat := e1, htx := e2 ▸ S.htx, hrw := e3 ▸ S.hrw, hmk := e4 ▸ S.hmk, hdr := hdr, hle := hle, data := S.data, mks := .cons ⟨tn, rfl⟩ S.mks, b1 := ?_, b2 := ?_, b3 := ?_ }
  · rw [List.reverse_cons]
    exact news_swap N
  · have := S.b1; omega
  · have := S.b2; simp; omega
  · intro o ho; have := S.b3 o ho; omega
end
end Mine
end -- H4
section -- G10
open PySem PySem.W PyProof.Rows PySem.Calls PySem.Spec
set_option maxHeartbeats 8000000
namespace Mine
variable {w : World} {base : Heap} {p : Program} {loose : List Str} {mean : ExcName → Option Value} {mg mb : Str → Option Value}
local macro_rules | `(tactic| walk_at "eval Name") => `(tactic| (name_kind "local"; (rename Fr _ _ _ _ => F'); with_unfolding_all refine ld F' (by first | assumption | rfl | exact Mine.up_ne (by assumption) (by decide) | exact Mine.up_ne (Mine.up_ne (by assumption) (by decide)) (by decide)) ?_))
local macro_rules | `(tactic| walk_at "rl1") => `(tactic| (try dsimp only [Mine.rdEnv]))
local macro_rules | `(tactic| walk_at "rl2") => `(tactic| (conv in (occs := *) (Mine.stScope Mine.readStmt) => all_goals whnf))
local macro_rules | `(tactic| walk_at "rl3") => `(tactic| (conv in (occs := *) (Mine.whTest Mine.rdDig) => all_goals whnf))
local macro_rules | `(tactic| walk_at "rl4") => `(tactic| (conv in (occs := *) (Mine.stLoop Mine.rdDig) => all_goals whnf))
local macro_rules | `(tactic| walk_at "rl") => `(tactic| (walk_at "rl1"; walk_at "rl2"; (try walk_at "rl3"); (try walk_at "rl4")))
noncomputable def rdOut : Stmt := nth (stBody readStmt) 1
noncomputable abbrev OutRest (w : World) (A : Around) (E : Value → Shared → Prop) (L : Addr) (Q : Flow → Shared → Prop) (s : Shared) : Prop := WhlRest PySem.Challenge.pw_dw0016_01 w A E (rdEnv L) (whTest rdOut) rdLoop [] Q 1 s
local macro_rules | `(tactic| walk_at "rl3") => `(tactic| (conv in (occs := *) (Mine.whTest Mine.rdOut) => all_goals whnf))
local macro_rules | `(tactic| walk_at "rl4") => `(tactic| skip)
section
variable {A : Around} {fr : List Env} {s : Shared} {h₀ h : Heap} {L R Mk : Addr} {tk : Nat} {m : Str → Option Value} {news : List (Addr × Obj)} {E : Value → Shared → Prop} {Q : Flow → Shared → Prop} {text : Str} {tt ta : Tok} {n : Nat}
theorem rd_test (X : (hd1.heap_39 w.params).In h₀) (T : Top p loose mean mg mb h₀) (B : Below A base fr h₀) (hh : A.handled = none) (hroom : A.depth + 1 < recursionLimit) (hu : A.units + 60 < cLine) (hlen : text.length ≤ 10000) {G : Bool → Shared → Prop}
    (F : Fr h₀ L h m) (N : News h₀ L h news) (hat : m (Str.ofString "at") = some (Value.int (n : Int) ta)) (htx : m (Str.ofString "text") = some (Value.str text tt)) {b : Bool} (hb : decide ((n : Int) < text.length) = b)
    (k : ∀ h' tk', Fr h₀ L h' m → News h₀ L h' news → G b { s with heap := h', toks := tk' }) :
    wpAny (model PySem.Challenge.pw_dw0016_01 w) (A.deeper (rdEnv L)) (PySem.isTrue (whTest rdOut) (rdEnv L) (eval (whTest rdOut) (rdEnv L))) G E { s with heap := h, toks := tk } := by
  subst hb
  walk_at "rl"
  k_steps
  all_goals exact k _ _ (by assumption) (by assumption)
noncomputable abbrev OutPost (w : World) (A : Around) (E : Value → Shared → Prop) (L : Addr) (Q : Flow → Shared → Prop) : Flow → Shared → Prop := WhlPost PySem.Challenge.pw_dw0016_01 w A E (rdEnv L) (whTest rdOut) rdLoop [] Q 0
noncomputable abbrev TailQ (w : World) (A : Around) (E : Value → Shared → Prop) (L : Addr) (Q : Flow → Shared → Prop) : Flow → Shared → Prop := fun f s' => match f with
  | .next => Stop (wpAny (model PySem.Challenge.pw_dw0016_01 w) A (execs [nth rdLoop 3] (rdEnv L)) (OutPost w A E L Q) E s')
  | f => OutPost w A E L Q f s'
/-- one turn's beginning: the test, and whether a frame opens -/
theorem rd_turn (X : (hd1.heap_39 w.params).In h₀) (T : Top p loose mean mg mb h₀) (B : Below A base fr h₀) (hh : A.handled = none) (hroom : A.depth + 1 < recursionLimit) (hu : A.units + 60 < cLine) (hlen : text.length ≤ 10000) (hE : PassesOwn (model PySem.Challenge.pw_dw0016_01 w) (A.deeper (rdEnv L)) (rdEnv L) E) {rest : List Nat} {c : Nat} {rowsD : List (List PyData)} {marks : List Str} {kR kM : Nat} {ops : List Open} {mv : List Value} {fz : List (Addr × Obj)} (S : RdSt h₀ L text R Mk (c :: rest) rowsD marks h m n kR kM ops mv fz)
    (k : ∀ h' tk' m', RdSt h₀ L text R Mk (c :: rest) rowsD marks h' m' n kR kM ops mv fz → m' (Str.ofString "inside") = some (Value.bool (c == 40 && rest.head? != some 41)) →
      wpAny (model PySem.Challenge.pw_dw0016_01 w) (A.deeper (rdEnv L)) (execs [nth rdLoop 1, nth rdLoop 2, nth rdLoop 3] (rdEnv L)) (OutPost w (A.deeper (rdEnv L)) E L Q) E { s with heap := h', toks := tk' }) :
    OutRest w (A.deeper (rdEnv L)) E L Q { s with heap := h, toks := tk } := by
  obtain ⟨ta, hat⟩ := S.hat
  obtain ⟨tt, htx⟩ := S.htx
  refine whl_turn hE ?_
  have hlt := lt_of_drop S.hdr
  refine rd_test (s := s) X T B hh hroom hu hlen S.F S.N hat htx (b := true) (by simpa using hlt) fun h₁ tk₁ F₁ N₁ => ?_
  refine WhlIf.yes rfl ?_
  show wpAny _ _ (execs (nth rdLoop 0 :: [nth rdLoop 1, nth rdLoop 2, nth rdLoop 3]) _) _ _ _
  refine stop_cons ?_
  refine wpAny_mono (rd_inside (s := s) X T B hh hroom hu hlen F₁ N₁ hat htx S.hdr) (fun f s' o => ?_) fun _ _ e => e
  obtain ⟨rfl, h₂, tk₂, t₂, rfl, F₂, N₂⟩ := o
  exact k _ _ _ (S.same F₂ N₂ rfl rfl rfl rfl) rfl
end
end Mine
end -- G10
section -- H5
open PySem PySem.W PyProof.Rows PySem.Calls PySem.Spec
namespace Mine
variable {w : World} {base : Heap} {p : Program} {loose : List Str} {mean : ExcName → Option Value} {mg mb : Str → Option Value}
section
variable {A : Around} {fr : List Env} {s : Shared} {h₀ : Heap} {L R Mk : Addr} {E : Value → Shared → Prop} {Q : Flow → Shared → Prop} {text : Str}
theorem back_eq {m : Str → Option Value} {x y : Str} {v : Option Value} (hn : y ≠ x) : (fun z => if z = x then v else m z) y = m y := if_neg hn
/-- the mark behind a bracket or a comma -/
theorem rd_next (X : (hd1.heap_39 w.params).In h₀) (T : Top p loose mean mg mb h₀) (B : Below A base fr h₀) (hh : A.handled = none) (hroom : A.depth + 1 < recursionLimit) (hu : A.units + 60 < cLine) (hlen : text.length ≤ 10000) {h : Heap} {m : Str → Option Value} {n kR kM tk : Nat} {ops : List Open} {mv : List Value} {fz : List (Addr × Obj)} {rowsD : List (List PyData)} {marks : List Str} {ins : Bool} {nm : Str} {r : List Nat}
    (S : RdSt h₀ L text R Mk ((if ins then [] else [44, 32]) ++ (nm.cps.toList ++ 61 :: r)) rowsD marks h m n kR kM ops mv fz) (hins : m (Str.ofString "inside") = some (Value.bool ins)) (hnm : 61 ∉ nm.cps.toList)
    (k : ∀ h' m' n' kM' mv' tk', RdSt h₀ L text R Mk r rowsD (nm :: marks) h' m' n' kR kM' ops mv' fz → OutRest w (A.deeper (rdEnv L)) E L Q { s with heap := h', toks := tk' }) :
    wpAny (model PySem.Challenge.pw_dw0016_01 w) (A.deeper (rdEnv L)) (execs [nth rdLoop 3] (rdEnv L)) (OutPost w (A.deeper (rdEnv L)) E L Q) E { s with heap := h, toks := tk } := by
  obtain ⟨ta, hat⟩ := S.hat
  obtain ⟨tt, htx⟩ := S.htx
  have hnl : nm.cps.toList.length = nm.length := by simp [Str.length]
  have htl : text.cps.toList.length = text.length := by simp [Str.length]
  have hfit : n + (if ins then 0 else 2) + nm.length + 1 ≤ text.length := by
    have := congrArg List.length S.hdr
    rw [List.length_drop, List.length_append, List.length_append, List.length_cons, hnl, htl] at this
    cases ins <;> simp at this ⊢ <;> omega
  refine stop_cons ?_
  refine rd_mark (s := s) X T B hh hroom hu hlen S.F (news_swap S.N) (by have := S.b2; have := S.hle; simp; omega) S.tl_M S.hmk hat htx hins S.hdr hnm fun h₁ tk₁ tn ta' ts F₁ N₁ => ?_
  refine wpAny_execs_nil (k _ _ _ _ _ _ (S.mark F₁ N₁ (n' := n + (if ins then 0 else 2) + nm.length + 1) (by omega) hfit ?_ ⟨_, rfl⟩ rfl rfl rfl))
  rw [show n + (if ins = true then 0 else 2) + nm.length + 1 = n + ((if ins = true then 0 else 2) + (nm.length + 1)) by omega, ← List.drop_drop, S.hdr]
  cases ins
  · show List.drop (2 + (nm.length + 1)) (44 :: 32 :: (nm.cps.toList ++ 61 :: r)) = r
    rw [← List.drop_drop]
    show List.drop (nm.length + 1) (nm.cps.toList ++ 61 :: r) = r
    rw [← hnl, ← List.drop_drop, List.drop_left]; rfl
  · show List.drop (0 + (nm.length + 1)) (nm.cps.toList ++ 61 :: r) = r
    rw [Nat.zero_add, ← hnl, ← List.drop_drop, List.drop_left]; rfl
noncomputable def MotM (w : World) (A : Around) (s : Shared) (h₀ : Heap) (L R Mk : Addr) (E : Value → Shared → Prop) (Q : Flow → Shared → Prop) (text : Str) (rest : List Nat) (rowsD : List (List PyData)) (marks : List Str) (res : List PyData) : Prop :=
  (∀ h m n kR kM ops mv fz tk marks', RdSt h₀ L text R Mk [] [res] marks' h m n kR kM ops mv fz → Q .next { s with heap := h, toks := tk }) →
  ∀ h m n kR kM ops mv fz tk, RdSt h₀ L text R Mk rest rowsD marks h m n kR kM ops mv fz → OutRest w (A.deeper (rdEnv L)) E L Q { s with heap := h, toks := tk }
noncomputable def MotC (w : World) (A : Around) (s : Shared) (h₀ : Heap) (L R Mk : Addr) (E : Value → Shared → Prop) (Q : Flow → Shared → Prop) (text : Str) (rest : List Nat) (rowsD : List (List PyData)) (marks : List Str) (res : List PyData) : Prop :=
  (∀ h m n kR kM ops mv fz tk marks', RdSt h₀ L text R Mk [] [res] marks' h m n kR kM ops mv fz → Q .next { s with heap := h, toks := tk }) →
  ∀ h m n kR kM ops mv fz tk, RdSt h₀ L text R Mk rest rowsD marks h m n kR kM ops mv fz → m (Str.ofString "inside") = some (Value.bool false) → ClsRest w (A.deeper (rdEnv L)) E L (TailQ w (A.deeper (rdEnv L)) E L Q) { s with heap := h, toks := tk }
theorem rd_run (X : (hd1.heap_39 w.params).In h₀) (T : Top p loose mean mg mb h₀) (B : Below A base fr h₀) (hh : A.handled = none) (hroom : A.depth + 1 < recursionLimit) (hu : A.units + 60 < cLine) (hlen : text.length ≤ 10000) (hE : PassesOwn (model PySem.Challenge.pw_dw0016_01 w) (A.deeper (rdEnv L)) (rdEnv L) E) {rest : List Nat} {rowsD : List (List PyData)} {marks : List Str} {res : List PyData} (run : RunM rest rowsD marks res) : MotM w A s h₀ L R Mk E Q text rest rowsD marks res := by
  refine RunM.rec (motive_1 := fun rest rowsD marks res _ => MotM w A s h₀ L R Mk E Q text rest rowsD marks res) (motive_2 := fun rest rowsD marks res _ => MotC w A s h₀ L R Mk E Q text rest rowsD marks res) ?done ?opn ?empty ?num ?close ?fin ?next run
  case done =>
    intro top ms hQ h m n kR kM ops mv fz tk S
    obtain ⟨ta, hat⟩ := S.hat
    obtain ⟨tt, htx⟩ := S.htx
    refine whl_turn hE ?_
    have hn : text.length ≤ n := by
      have := List.drop_eq_nil_iff.mp S.hdr
      simpa [Str.length] using this
    refine rd_test (s := s) X T B hh hroom hu hlen S.F S.N hat htx (b := false) (by simpa using hn) fun h₁ tk₁ F₁ N₁ => ?_
    refine WhlIf.no rfl ?_
    exact wpAny_execs_nil (hQ _ _ _ _ _ _ _ _ _ _ (S.same F₁ N₁ rfl rfl rfl rfl))
  case opn =>
    intro nm r rows marks res h1 h2 _ ih hQ h m n kR kM ops mv fz tk S
    refine rd_turn (s := s) X T B hh hroom hu hlen hE S fun h₁ tk₁ m₁ S₁ hi => ?_
    have hins : m₁ (Str.ofString "inside") = some (Value.bool true) := by
      rw [hi]
      have : (nm.cps.toList ++ 61 :: r).head? ≠ some 41 := by
        cases q : nm.cps.toList with
        | nil => simp
        | cons a b => rw [q] at h2; simpa using h2
      simpa using this
    refine stop_cons ?_
    obtain ⟨ta, hat⟩ := S₁.hat
    obtain ⟨tt, htx⟩ := S₁.htx
    refine rd_open (s := s) X T B hh hroom hu hlen S₁.F S₁.N S₁.tl_R (by have := S₁.b1; have := S₁.hle; rw [opRefs_len]; omega) S₁.hrw hat htx S₁.hdr fun h₂ tk₂ l ta₂ F₂ N₂ hl => ?_
    have S₂ := S₁.opn F₂ N₂ hl
    show wpAny _ _ (execs (nth rdLoop 2 :: [nth rdLoop 3]) _) _ _ _
    refine stop_cons ?_
    refine whl_start 1 ?_
    refine rd_skip (s := s) X T B hh hroom hu hlen hE F₂ S₂.N (up_ne hins (by decide)) fun h₃ tk₃ F₃ N₃ => ?_
    exact rd_next (ins := true) X T B hh hroom hu hlen (S₂.same F₃ N₃ rfl rfl rfl rfl) (up_ne hins (by decide)) h1 fun h' m' n' kM' mv' tk' S' => ih hQ _ _ _ _ _ _ _ _ _ S'
  case empty =>
    intro r rows marks res _ ih hQ h m n kR kM ops mv fz tk S
    refine rd_turn (s := s) X T B hh hroom hu hlen hE S fun h₁ tk₁ m₁ S₁ hi => ?_
    have hins : m₁ (Str.ofString "inside") = some (Value.bool false) := by rw [hi]; simp
    refine stop_cons ?_
    obtain ⟨ta, hat⟩ := S₁.hat
    obtain ⟨tt, htx⟩ := S₁.htx
    refine rd_open (s := s) X T B hh hroom hu hlen S₁.F S₁.N S₁.tl_R (by have := S₁.b1; have := S₁.hle; rw [opRefs_len]; omega) S₁.hrw hat htx S₁.hdr fun h₂ tk₂ l ta₂ F₂ N₂ hl => ?_
    have S₂ := S₁.opn F₂ N₂ hl
    show wpAny _ _ (execs (nth rdLoop 2 :: [nth rdLoop 3]) _) _ _ _
    refine stop_cons ?_
    refine whl_start 1 ?_
    exact ih hQ _ _ _ _ _ _ _ _ _ S₂ (up_ne hins (by decide))
  case num =>
    intro c d r x mk i top rows ms res h40 hx hdig hxi hxl hr _ ih hQ h m n kR kM ops mv fz tk S
    refine rd_turn (s := s) X T B hh hroom hu hlen hE S fun h₁ tk₁ m₁ S₁ hi => ?_
    have hins : m₁ (Str.ofString "inside") = some (Value.bool false) := by rw [hi]; simp [h40]
    obtain ⟨ta, hat⟩ := S₁.hat
    obtain ⟨tt, htx⟩ := S₁.htx
    have hd := S₁.data
    cases hd with
    | @cons o _ ops' _ p q =>
    obtain ⟨l, lv, kl⟩ := o
    have hm := S₁.mks
    cases hm with
    | @cons v _ mv' _ p' q' =>
    obtain ⟨tm, rfl⟩ := p'
    have hd0 := S₁.d0
    simp only [List.map_cons, List.nodup_cons, List.mem_cons, not_or] at hd0
    obtain ⟨⟨x1, x2, x3⟩, ⟨x4, x5⟩, x6, x7⟩ := hd0
    have hN := S₁.N
    rw [opRefs_cons, List.reverse_cons] at hN
    have hdl : n + 1 + d.length ≤ text.length := by
      have h1 := congrArg List.length S₁.hdr
      have hn := lt_of_drop S₁.hdr
      simp only [List.length_drop, List.length_append, List.length_cons] at h1
      simp only [Str.length, ← Array.length_toList] at hn ⊢
      omega
    have b1 := S₁.b1
    have b2 := S₁.b2
    have b3 := S₁.b3 _ (.head _)
    simp only [List.length_cons] at b1 b2 b3
    refine stop_cons ?_
    refine rd_num (s := s) X T B hh hroom hu hlen hE S₁.F (tl := ops'.map opObj ++ fz) (rv := opRefs ops') (l := l) (lv := lv) (kl := kl) hN S₁.hrw S₁.hmk hat htx (by rw [opRefs_len]; omega) (by rw [List.length_reverse]; omega) (by omega) x1 x2 x4 ?_ ?_ S₁.hdr h40 hdig hr hx hxi hxl fun h₂ tk₂ T₂ ti ta₂ te₂ F₂ N₂ hl => ?_
    · intro z hz e
      rcases List.mem_append.mp hz with hz | hz
      · obtain ⟨o, ho, rfl⟩ := List.mem_map.mp hz
        exact x5 (e ▸ List.mem_map_of_mem (f := fun x : Open => x.1) ho)
      · exact S₁.d1 z hz (e ▸ .tail _ (.head _))
    · intro z hz e
      rcases List.mem_append.mp hz with hz | hz
      · obtain ⟨o, ho, rfl⟩ := List.mem_map.mp hz
        exact x6 (e ▸ List.mem_map_of_mem (f := fun x : Open => x.1) ho)
      · exact S₁.d1 z hz (e ▸ .tail _ (.tail _ (.head _)))
    have S₂ := S₁.num F₂ N₂ hl (n' := n + 1 + d.length) (rest' := r) (by omega) hdl (by
      rw [show n + 1 + d.length = n + (1 + d.length) by omega, ← List.drop_drop, S₁.hdr, ← List.drop_drop]
      show List.drop d.length (d ++ r) = r
      rw [List.drop_left]) ⟨_, rfl⟩ rfl rfl rfl
    show wpAny _ _ (execs (nth rdLoop 2 :: [nth rdLoop 3]) _) _ _ _
    refine stop_cons ?_
    refine whl_start 1 ?_
    exact ih hQ _ _ _ _ _ _ _ _ _ S₂ (by rw [if_neg (by decide), if_neg (by decide)]; exact hins)
  case close =>
    intro r ad bd mk rows ms res _ ih hQ h m n kR kM ops mv fz tk S hins
    obtain ⟨ta, hat⟩ := S.hat
    obtain ⟨tt, htx⟩ := S.htx
    have hd := S.data
    cases hd with
    | @cons o _ ops' _ p q =>
    obtain ⟨a, av, ka⟩ := o
    cases q with
    | @cons o2 _ ops'' _ p2 q2 =>
    obtain ⟨b, bv, kb⟩ := o2
    have hm := S.mks
    cases hm with
    | @cons v _ mv' _ p' q' =>
    obtain ⟨tm, rfl⟩ := p'
    have hd0 := S.d0
    simp only [List.map_cons, List.nodup_cons, List.mem_cons, not_or] at hd0
    obtain ⟨⟨x1, x2, x3, x4⟩, ⟨x5, x6, x7⟩, ⟨x8, x9⟩, x10, x11⟩ := hd0
    have hN := S.N
    rw [opRefs_cons, opRefs_cons, List.reverse_cons] at hN
    have b1 := S.b1
    have b2 := S.b2
    have b3 := S.b3 _ (.tail _ (.head _))
    have hle := S.hle
    simp only [List.length_cons] at b1 b2 b3
    refine rd_close (s := s) X T B hh hroom hu hlen hE S.F (tl := ops''.map opObj ++ fz) (rv := opRefs ops'') (a := a) (b := b) (bv := bv) (kb := kb) hN S.hrw S.hmk hat htx hins (by rw [opRefs_len]; omega) (by rw [List.length_reverse]; omega) (by omega) x1 x3 x6 (Ne.symm x2) (Ne.symm x5) x8 ?_ ?_ ?_ S.hdr fun h₂ tk₂ T₂ ta₂ F₂ N₂ hl => ?_
    · intro z hz e
      rcases List.mem_append.mp hz with hz | hz
      · obtain ⟨o, ho, rfl⟩ := List.mem_map.mp hz
        exact x7 (e ▸ List.mem_map_of_mem (f := fun x : Open => x.1) ho)
      · exact S.d1 z hz (e ▸ .tail _ (.head _))
    · intro z hz e
      rcases List.mem_append.mp hz with hz | hz
      · obtain ⟨o, ho, rfl⟩ := List.mem_map.mp hz
        exact x10 (e ▸ List.mem_map_of_mem (f := fun x : Open => x.1) ho)
      · exact S.d1 z hz (e ▸ .tail _ (.tail _ (.tail _ (.head _))))
    · intro z hz e
      rcases List.mem_append.mp hz with hz | hz
      · obtain ⟨o, ho, rfl⟩ := List.mem_map.mp hz
        exact x4 (e ▸ List.mem_map_of_mem (f := fun x : Open => x.1) ho)
      · exact S.d1 z hz (e ▸ .head _)
    have S₂ := S.close (m' := fun y => if y = Str.ofString "at" then some (Value.int ((n : Int) + 1) ta₂) else if y = Str.ofString "closed" then some (Value.ref a) else m y) F₂ N₂ hl rfl rfl rfl rfl
    exact ih hQ _ _ _ _ _ _ _ _ _ S₂ (by rw [if_neg (by decide), if_neg (by decide)]; exact hins)
  case fin =>
    intro rows marks res _ ih hQ h m n kR kM ops mv fz tk S hins
    obtain ⟨ta, hat⟩ := S.hat
    obtain ⟨tt, htx⟩ := S.htx
    have hn : text.length ≤ n := by
      have := List.drop_eq_nil_iff.mp S.hdr
      simpa [Str.length] using this
    refine rd_stop (s := s) X T B hh hroom hu hlen hE S.F S.N (by have := S.b1; have := S.hle; rw [opRefs_len]; omega) S.hrw hat htx hins S.hle (by rw [S.hdr]; simp) fun h₁ tk₁ F₁ N₁ => ?_
    show wpAny _ _ (execs [nth rdLoop 3] _) _ _ _
    refine stop_cons ?_
    refine rd_fin (s := s) X T B hh hroom hu hlen F₁ N₁ hat htx hn fun h₂ tk₂ F₂ N₂ => ?_
    exact wpAny_execs_nil (ih hQ _ _ _ _ _ _ _ _ _ (S.same F₂ N₂ rfl rfl rfl rfl))
  case next =>
    intro nm r rows marks res h1 _ ih hQ h m n kR kM ops mv fz tk S hins
    obtain ⟨ta, hat⟩ := S.hat
    obtain ⟨tt, htx⟩ := S.htx
    refine rd_stop (s := s) X T B hh hroom hu hlen hE S.F S.N (by have := S.b1; have := S.hle; rw [opRefs_len]; omega) S.hrw hat htx hins S.hle (by rw [S.hdr]; simp) fun h₁ tk₁ F₁ N₁ => ?_
    exact rd_next (ins := false) X T B hh hroom hu hlen (S.same F₁ N₁ rfl rfl rfl rfl) hins h1 fun h' m' n' kM' mv' tk' S' => ih hQ _ _ _ _ _ _ _ _ _ S'
end
end Mine
end -- H5
section -- G11
open PySem PySem.W PyProof.Rows PySem.Calls PySem.Spec
set_option maxHeartbeats 8000000
namespace Mine
variable {w : World} {base : Heap} {p : Program} {loose : List Str} {mean : ExcName → Option Value} {mg mb : Str → Option Value}
local macro_rules | `(tactic| walk_at "unpackItems ref") => `(tactic| (k_here; (refine unpackItemsN_ (by k_asm) (by k_asm) (by kun_tup) (by assumption) (by rfl) ?_); intro h' F' N'; (try k_sweep)))
local macro_rules | `(tactic| walk_at "eval Name") => `(tactic| (name_kind "local"; (rename Fr _ _ _ _ => F'); with_unfolding_all refine ld F' (by first | assumption | rfl | exact Mine.up_ne (by assumption) (by decide) | exact Mine.up_ne (Mine.up_ne (by assumption) (by decide)) (by decide)) ?_))
theorem rd_start {h₀ h : Heap} {L R Mk l0 D : Addr} {od : Obj} {v : Value} {t : Tok} {m : Str → Option Value} {text : Str} {ta tt : Tok} (F : Fr h₀ L h m) (N : News h₀ L h [(D, od), (Mk, W.listOf (List.toArray [v]) 0), (R, W.listOf (List.toArray [Value.ref l0]) 0), (l0, W.listOf (List.toArray []) 0)]) (hv : v = Value.str (Str.ofString "") t)
    (hRl : l0 < R) (hMk : R < Mk ∧ l0 < Mk) (e1 : m (Str.ofString "at") = some (Value.int ((0 : Nat) : Int) ta)) (e2 : m (Str.ofString "text") = some (Value.str text tt)) (e3 : m (Str.ofString "rows") = some (Value.ref R)) (e4 : m (Str.ofString "marks") = some (Value.ref Mk)) :
    RdSt h₀ L text R Mk text.cps.toList [[]] [Str.ofString ""] h m 0 0 0 [(l0, [], 0)] [v] [] := by
  refine ⟨F, news_sub N ?_, ?_, (fun q hq => nomatch hq), ⟨_, e1⟩, ⟨_, e2⟩, e3, e4, rfl, Nat.zero_le _, .cons (fun h _ => ⟨_, .nil⟩) .nil, .cons ⟨_, hv⟩ .nil, Nat.le_refl _, Nat.le_refl _, fun o ho => ?_⟩
  · intro z hz
    simp only [opRefs, List.reverse_cons, List.reverse_nil, List.nil_append, List.map_cons, List.map_nil, List.append_nil, List.mem_cons, List.not_mem_nil, or_false, opObj] at hz ⊢
    rcases hz with h | h | h
    · exact .inr (.inr (.inl h))
    · exact .inr (.inl h)
    · exact .inr (.inr (.inr h))
  · simp only [List.map_cons, List.map_nil, List.nodup_cons, List.mem_cons, List.not_mem_nil, or_false, not_or, not_false_eq_true, List.nodup_nil, and_true]
    exact ⟨⟨Nat.ne_of_lt hMk.1, Nat.ne_of_gt hRl⟩, Nat.ne_of_gt hMk.2⟩
  · rcases List.mem_cons.mp ho with rfl | ho
    · simp
    · cases ho
theorem readT (bs : Base1 w base p loose mean mg mb) {g : Heap} {text : Str} {tt : Tok} {res : List PyData} (hlen : text.length ≤ 10000) (run : RunM text.cps.toList [[]] [Str.ofString ""] res) :
    Calls PySem.Challenge.pw_dw0016_01 w base [] 1 60 (fun h => ∀ a o, g.get? a = some o → (h.get? a).isSome = true) (.ref 71) [.str text tt] []
      (fun r h' => ∃ fz, HoldsAll fz h' ∧ (∀ q ∈ fz, g.get? q.1 = none) ∧ Via fz r (.list res)) (fun _ _ => False) := by
  refine' calls_K (K := hd1.heap_39 w.params) (binds := [(Str.ofString "text", .str text tt)]) ?hS bs.T.nolimit bs.K (by omega) ?ho ?hcd ?hbind ?hloc ?body ?hcell ?hco ?hgen ?hk
  case ho => k_is
  case hcd => k_is
  case hS => intro b hb; cases hb
  case hbind => exact fun s st => BindsTo.of_eq rfl
  case hloc => exact locs rfl
  case hcell => decide
  case hco => exact rfl
  case hgen => exact rfl
  case hk => exact rfl
  intro A fr s L h₁ hA hg hh hroom hu ff hSf stg B F st₁ hL
  have X := bs.K.keeps stg
  have T := bs.T.keeps stg
  have N : News (hideAll s.heap []) L h₁ [] := News.nil
  refine stop_cons ?_
  k_steps
  rename_i l0 _ _ R _ hRl Mk _ hMk D _ hD _ _ _ _ F' N'
  show wpAny _ _ (execs (rdOut :: [nth (stBody readStmt) 2]) (rdEnv L)) _ _ _
  refine stop_cons ?_
  refine whl_start 1 ?_
  refine rd_run (s := s) (R := R) (Mk := Mk) X T B hh (by omega) (by omega) hlen (by passes_own) run ?_ _ _ _ _ _ _ _ _ _ (rd_start F' N' rfl hRl hMk rfl rfl rfl rfl)
  intro h m n kR kM ops mv fz tk marks' S
  have F₂ := S.F
  have N₂ := S.N
  have hrw := S.hrw
  have hd := S.data
  cases hd with
  | @cons o _ ops' _ p q =>
  cases q
  obtain ⟨l, lv, kl⟩ := o
  clear F' N'
  show wpAny _ _ (execs [nth (stBody readStmt) 2] (rdEnv L)) _ _ _
  ((try dsimp only [Mine.rdEnv]); (conv in (occs := *) (Mine.stScope Mine.readStmt) => all_goals whnf); (try (conv in (occs := *) (Mine.whTest Mine.rdDig) => all_goals whnf)); (try (conv in (occs := *) (Mine.stLoop Mine.rdDig) => all_goals whnf)))
  conv in (nth (stBody readStmt) 2) => whnf
  k_steps
  have hsub : ∀ z ∈ opObj (l, lv, kl) :: fz, z ∈ (R, W.listOf (opRefs [(l, lv, kl)]).toArray kR) :: (Mk, W.listOf mv.reverse.toArray kM) :: ([(l, lv, kl)].map opObj ++ fz) := fun z hz => .tail _ (.tail _ hz)
  refine Out.mk S.F.keep ⟨opObj (l, lv, kl) :: fz, fun z hz => (S.N z (hsub z hz)).1, fun z hz => ?_, Via.list (k := kl) p (fun z hz => .tail _ hz) (.head _)⟩
  cases e : g.get? z.1 with
  | none => rfl
  | some o =>
    have h1 := hg _ _ e
    have h2 : s.heap.get? z.1 = none := (S.N z (hsub z hz)).2.2
    rw [h2] at h1
    cases h1
end Mine
end -- G11
section -- P4
open PySem PySem.W PyProof.Rows PySem.Calls PySem.Spec
namespace Mine
/-! law 01, plain: the building of the frames, row by row -/
noncomputable def rowT (x : Str) : Cell → T
  | .num v => .num x v .nil
  | .sub j => .sub x j .nil .nil
noncomputable def T.add (r : Nat) (x : Str) (c : Cell) : Nat → T → T
  | me, .nil => if me = r then rowT x c else .nil
  | me, .num y i k => .num y i (T.add r x c me k)
  | me, .sub y j s k => .sub y j (T.add r x c j s) (T.add r x c me k)
noncomputable def addAr (ar : Nat → Rows) (r : Nat) (x : Str) (c : Cell) : Nat → Rows := fun i => if i = r then ar i ++ [(x, c)] else ar i
theorem spells_row {ar : Nat → Rows} {x : Str} {c : Cell} (h : ∀ j, c = .sub j → ar j = []) : Spells ar [(x, c)] (rowT x c) := by
  cases c with
  | num v => exact .num .nil
  | sub j => exact .sub (by rw [h j rfl]; exact .nil) .nil
theorem spells_add {ar : Nat → Rows} {r : Nat} {x : Str} {c : Cell} (hc : ∀ j, c = .sub j → addAr ar r x c j = []) {rows : Rows} {t : T} (h : Spells ar rows t) :
    ∀ me, Spells (addAr ar r x c) (if me = r then rows ++ [(x, c)] else rows) (T.add r x c me t) := by
  induction h with
  | nil =>
    intro me
    simp only [T.add]
    by_cases e : me = r
    · rw [if_pos e, if_pos e]; exact spells_row hc
    · rw [if_neg e, if_neg e]; exact .nil
  | num h ih =>
    intro me
    have := ih me
    simp only [T.add]
    by_cases e : me = r
    · rw [if_pos e] at this ⊢; exact .num this
    · rw [if_neg e] at this ⊢; exact .num this
  | @sub y j rows s t h1 h2 ih1 ih2 =>
    intro me
    have h3 := ih1 j
    have h4 := ih2 me
    have e3 : addAr ar r x c j = if j = r then ar j ++ [(x, c)] else ar j := rfl
    rw [← e3] at h3
    simp only [T.add]
    by_cases e : me = r
    · rw [if_pos e] at h4 ⊢; exact .sub h3 h4
    · rw [if_neg e] at h4 ⊢; exact .sub h3 h4
theorem add_none {r : Nat} {x : Str} {c : Cell} : ∀ (t : T) (me : Nat), r ≠ me → r ∉ t.ids → T.add r x c me t = t
  | .nil, me, h, _ => by simp [T.add, Ne.symm h]
  | .num y i k, me, h, h' => by simp only [T.add]; rw [add_none k me h h']
  | .sub y j s k, me, h, h' => by
    simp only [T.ids, List.mem_cons, List.mem_append, not_or] at h'
    simp only [T.add]
    rw [add_none s j h'.1 h'.2.1, add_none k me h h'.2.2]
noncomputable def Cell.kid : Cell → List Nat
  | .num _ => []
  | .sub j => [j]
theorem add_once {r : Nat} {x : Str} {c : Cell} : ∀ (t : T) (me : Nat), (me :: t.ids).Nodup → r ∈ me :: t.ids →
    (∃ a b, t.pre = a ++ b ∧ (T.add r x c me t).pre = a ++ x :: b) ∧ (∃ a b, t.ids = a ++ b ∧ (T.add r x c me t).ids = a ++ (c.kid ++ b)) ∧ (T.add r x c me t).size = t.size + 1
  | .nil, me, _, hr => by
    simp only [T.ids, List.mem_cons, List.not_mem_nil, or_false] at hr
    simp only [T.add, hr, if_true]
    refine ⟨⟨[], [], rfl, ?_⟩, ⟨[], [], rfl, ?_⟩, ?_⟩
    · cases c <;> rfl
    · cases c <;> rfl
    · cases c <;> rfl
  | .num y i k, me, hn, hr => by
    obtain ⟨⟨a, b, e1, e2⟩, ⟨a', b', e3, e4⟩, e5⟩ := add_once (r := r) (x := x) (c := c) k me hn hr
    simp only [T.add]
    exact ⟨⟨y :: a, b, by simp [T.pre, e1], by simp [T.pre, e2]⟩, ⟨a', b', by simp [T.ids, e3], by simp [T.ids, e4]⟩, by simp [T.size, e5]⟩
  | .sub y j s k, me, hn, hr => by
    simp only [T.ids] at hn hr
    have hn1 : (j :: s.ids).Nodup := by
      have h := (List.nodup_cons.mp hn).2
      rw [← List.cons_append] at h
      exact (List.nodup_append.mp h).1
    have hn2 : (me :: k.ids).Nodup := by
      have h := List.nodup_cons.mp hn
      refine List.nodup_cons.mpr ⟨fun q => h.1 (.tail _ (List.mem_append_right _ q)), ?_⟩
      have h2 := h.2
      rw [← List.cons_append] at h2
      exact (List.nodup_append.mp h2).2.1
    have hdis : ∀ z ∈ j :: s.ids, z ∉ me :: k.ids := by
      intro z hz hz'
      have h := List.nodup_cons.mp hn
      have h2 := h.2
      rw [← List.cons_append] at h2 h
      rcases List.mem_cons.mp hz' with rfl | hz'
      · exact h.1 (List.mem_append_left _ hz)
      · exact (List.nodup_append.mp h2).2.2 z hz z hz' rfl
    simp only [T.add]
    by_cases hin : r ∈ j :: s.ids
    · have hno := hdis r hin
      simp only [List.mem_cons, not_or] at hno
      rw [add_none k me hno.1 hno.2]
      obtain ⟨⟨a, b, e1, e2⟩, ⟨a', b', e3, e4⟩, e5⟩ := add_once (r := r) (x := x) (c := c) s j hn1 hin
      exact ⟨⟨y :: a, b ++ k.pre, by simp [T.pre, e1], by simp [T.pre, e2]⟩, ⟨j :: a', b' ++ k.ids, by simp [T.ids, e3], by simp [T.ids, e4]⟩, by simp [T.size, e5]; omega⟩
    · have hin2 : r ∈ me :: k.ids := by
        rcases List.mem_cons.mp hr with rfl | hr
        · exact .head _
        · rw [← List.cons_append] at hr
          rcases List.mem_append.mp hr with q | q
          · exact absurd q hin
          · exact .tail _ q
      simp only [List.mem_cons, not_or] at hin
      rw [add_none s j hin.1 hin.2]
      obtain ⟨⟨a, b, e1, e2⟩, ⟨a', b', e3, e4⟩, e5⟩ := add_once (r := r) (x := x) (c := c) k me hn2 hin2
      exact ⟨⟨y :: (s.pre ++ a), b, by simp [T.pre, e1], by simp [T.pre, e2]⟩, ⟨j :: (s.ids ++ a'), b', by simp [T.ids, e3], by simp [T.ids, e4]⟩, by simp [T.size, e5]; omega⟩
theorem names_add {r : Nat} {x : Str} {c : Cell} : ∀ (t : T) (me : Nat), (T.add r x c me t).names = if me = r then t.names ++ [x] else t.names
  | .nil, me => by
    simp only [T.add]
    by_cases e : me = r
    · rw [if_pos e, if_pos e]; cases c <;> rfl
    · rw [if_neg e, if_neg e]
  | .num y i k, me => by
    simp only [T.add, T.names, names_add k me]
    by_cases e : me = r
    · simp [e]
    · simp [e]
  | .sub y j s k, me => by
    simp only [T.add, T.names, names_add k me]
    by_cases e : me = r
    · simp [e]
    · simp [e]
theorem names_pre : ∀ (t : T) (x : Str), x ∈ t.names → x ∈ t.pre
  | .nil, _, h => nomatch h
  | .num y i k, x, h => by
    rcases List.mem_cons.mp h with rfl | h
    · exact .head _
    · exact .tail _ (names_pre k x h)
  | .sub y j s k, x, h => by
    rcases List.mem_cons.mp h with rfl | h
    · exact .head _
    · exact .tail _ (List.mem_append_right _ (names_pre k x h))
noncomputable def Cell.fine : Cell → Prop
  | .num v => -500 ≤ v ∧ v < 500
  | .sub _ => True
theorem ok_add {r : Nat} {x : Str} {c : Cell} (hx : 0 < x.length ∧ x.length ≤ 10) (hc : c.fine) : ∀ (t : T) (me : Nat), t.ok → x ∉ t.pre → (T.add r x c me t).ok
  | .nil, me, _, _ => by
    simp only [T.add]
    by_cases e : me = r
    · rw [if_pos e]
      cases c with
      | num v => exact ⟨hx, hc, trivial⟩
      | sub j => exact ⟨hx, List.nodup_nil, trivial, trivial⟩
    · rw [if_neg e]; trivial
  | .num y i k, me, h, hn => ⟨h.1, h.2.1, ok_add hx hc k me h.2.2 fun q => hn (.tail _ q)⟩
  | .sub y j s k, me, h, hn => by
    have hs : x ∉ s.pre := fun q => hn (.tail _ (List.mem_append_left _ q))
    refine ⟨h.1, ?_, ok_add hx hc s j h.2.2.1 hs, ok_add hx hc k me h.2.2.2 fun q => hn (.tail _ (List.mem_append_right _ q))⟩
    rw [names_add]
    by_cases e : j = r
    · rw [if_pos e]
      refine List.nodup_append.mpr ⟨h.2.1, by simp, fun a ha b hb => ?_⟩
      rw [List.mem_singleton.mp hb]
      exact fun e => hs (names_pre s x (e ▸ ha))
    · rw [if_neg e]; exact h.2.1
end Mine
end -- P4
section -- P5
open PySem PySem.W PyProof.Rows PySem.Calls PySem.Spec
namespace Mine
noncomputable def nameOf (q : Int) (k : Nat) : Str := Txt.item (Str.ofString "xyz") (q.fmod 3) ++ Str.ofString (toString (k : Int))
theorem fmod3 (q : Int) : q.fmod 3 = 0 ∨ q.fmod 3 = 1 ∨ q.fmod 3 = 2 := by
  rw [Int.fmod_eq_emod_of_nonneg _ (by decide)]; omega
theorem nat_digits : ∀ k : Nat, k < 200 → (Str.ofString (toString (k : Int))).cps.toList.all isDig = true ∧ (Str.ofString (toString (k : Int))).length ≤ 3 ∧ PySem.intText? (Str.ofString (toString (k : Int))) = some (k : Int) := by decide +kernel
theorem letter_ls (q : Int) : (Txt.item (Str.ofString "xyz") (q.fmod 3)).cps.toList = [120] ∨ (Txt.item (Str.ofString "xyz") (q.fmod 3)).cps.toList = [121] ∨ (Txt.item (Str.ofString "xyz") (q.fmod 3)).cps.toList = [122] := by
  rcases fmod3 q with h | h | h <;> rw [h] <;> decide
theorem letter_ls' (q : Int) : ∃ c, (Txt.item (Str.ofString "xyz") (q.fmod 3)).cps.toList = [c] ∧ (c = 120 ∨ c = 121 ∨ c = 122) := by
  rcases letter_ls q with h | h | h
  · exact ⟨_, h, .inl rfl⟩
  · exact ⟨_, h, .inr (.inl rfl)⟩
  · exact ⟨_, h, .inr (.inr rfl)⟩
theorem nameOf_ok (q : Int) {k : Nat} (hk : k < 200) : NameOk (nameOf q k) := by
  obtain ⟨c, h, hc⟩ := letter_ls' q
  obtain ⟨h1, _, _⟩ := nat_digits k hk
  exact ⟨c, (Str.ofString (toString (k : Int))).cps.toList, by rw [nameOf, ls_append, h]; rfl, hc, fun d hd => List.all_eq_true.mp h1 d hd⟩
theorem nameOf_len (q : Int) {k : Nat} (hk : k < 200) : 0 < (nameOf q k).length ∧ (nameOf q k).length ≤ 10 := by
  obtain ⟨c, h, _⟩ := letter_ls' q
  obtain ⟨_, h2, _⟩ := nat_digits k hk
  have e : (Txt.item (Str.ofString "xyz") (q.fmod 3)).length = 1 := by rw [Str.length, ← Array.length_toList, h]; rfl
  rw [nameOf, lens, e]
  omega
theorem nameOf_inj {q q' : Int} {k k' : Nat} (hk : k < 200) (hk' : k' < 200) (h : nameOf q k = nameOf q' k') : k = k' := by
  obtain ⟨c, h1, _⟩ := letter_ls' q
  obtain ⟨c', h1', _⟩ := letter_ls' q'
  have e := congrArg (fun x : Str => x.cps.toList) h
  simp only [nameOf, ls_append, h1, h1', List.cons_append, List.nil_append, List.cons.injEq] at e
  have e2 : Str.ofString (toString (k : Int)) = Str.ofString (toString (k' : Int)) := by
    have := e.2
    generalize Str.ofString (toString (k : Int)) = a at this
    generalize Str.ofString (toString (k' : Int)) = b at this
    cases a; cases b; simp only [Str.mk.injEq]; exact Array.toList_inj.mp this
  have h3 := (nat_digits k hk).2.2
  rw [e2, (nat_digits k' hk').2.2] at h3
  have : (k' : Int) = k := Option.some.inj h3
  omega
structure PS where
  n : Nat
  ar : Nat → Rows
  lost : List (Nat × Str)
noncomputable def qOf (n : Nat) (x : Int) : Int := x.fdiv n
noncomputable def rOf (n : Nat) (x : Int) : Nat := (x.fmod n).toNat
noncomputable def isSub (q : Int) : Bool := decide ((q.fdiv 3).fmod 3 ≠ 0)
noncomputable def cellOf (n : Nat) (q : Int) : Cell := if isSub q then .sub n else .num ((q.fdiv 9).fmod 1000 - 500)
noncomputable def stepP (S : PS) (k : Nat) (x : Int) : PS :=
  ⟨if isSub (qOf S.n x) then S.n + 1 else S.n, addAr S.ar (rOf S.n x) (nameOf (qOf S.n x) k) (cellOf S.n (qOf S.n x)),
    if (qOf S.n x).fmod 7 = 3 then S.lost ++ [(rOf S.n x, nameOf (qOf S.n x) k)] else S.lost⟩
noncomputable def psAt (xs : List Int) : Nat → PS
  | 0 => ⟨1, fun _ => [], []⟩
  | k + 1 => stepP (psAt xs k) k (xs.getD k 0)
structure PInv (S : PS) (k : Nat) (t : T) : Prop where
  sp : Spells S.ar (S.ar 0) t
  idn : (0 :: t.ids).Nodup
  ids : ∀ i, i ∈ 0 :: t.ids ↔ i < S.n
  pn : t.pre.Nodup
  size : t.size = k
  nm : ∀ x ∈ t.pre, ∃ q k', k' < k ∧ x = nameOf q k'
  ok : t.ok
  nn : t.names.Nodup
  n0 : 0 < S.n
  nk : S.n ≤ k + 1
  far : ∀ i, S.n ≤ i → S.ar i = []
  rn : ∀ i, ((S.ar i).map (·.1)).Nodup
  cf : ∀ i x c, (x, c) ∈ S.ar i → c.fine ∧ (∀ j, c = .sub j → j < S.n)
  rp : ∀ i x, x ∈ (S.ar i).map (·.1) → x ∈ t.pre
  own : ∀ i j x, x ∈ (S.ar i).map (·.1) → x ∈ (S.ar j).map (·.1) → i = j
  lo : ∀ y ∈ S.lost, y.1 < S.n ∧ y.2 ∈ (S.ar y.1).map (·.1)
  ln : (S.lost.map (·.2)).Nodup
  lk : S.lost.length ≤ k
theorem pinv_zero (xs : List Int) : PInv (psAt xs 0) 0 .nil where
  sp := .nil
  idn := by simp [T.ids]
  ids := fun i => by simp [T.ids, psAt]
  pn := by simp [T.pre]
  size := rfl
  nm := fun x h => by simp [T.pre] at h
  ok := trivial
  nn := by simp [T.names]
  n0 := Nat.one_pos
  nk := Nat.le_refl _
  far := fun _ _ => rfl
  rn := fun _ => by simp [psAt]
  cf := fun _ _ _ h => by simp [psAt] at h
  rp := fun _ _ h => by simp [psAt] at h
  own := fun _ _ _ h => by simp [psAt] at h
  lo := fun y h => by simp [psAt] at h
  ln := by simp [psAt]
  lk := Nat.le_refl _
theorem rOf_lt {n : Nat} (h : 0 < n) (x : Int) : rOf n x < n := by
  unfold rOf
  rw [Int.fmod_eq_emod_of_nonneg _ (by omega)]
  have h1 := Int.emod_nonneg x (show (n : Int) ≠ 0 by omega)
  have h2 := Int.emod_lt_of_pos x (show (0 : Int) < n by omega)
  omega
theorem pinv_step {S : PS} {k : Nat} {t : T} (I : PInv S k t) (hk : k < 150) (x : Int) : PInv (stepP S k x) (k + 1) (T.add (rOf S.n x) (nameOf (qOf S.n x) k) (cellOf S.n (qOf S.n x)) 0 t) := by
  have hr := rOf_lt I.n0 x
  generalize hrr : rOf S.n x = r at hr
  generalize hqq : qOf S.n x = q
  have hS : stepP S k x = ⟨if isSub q then S.n + 1 else S.n, addAr S.ar r (nameOf q k) (cellOf S.n q), if q.fmod 7 = 3 then S.lost ++ [(r, nameOf q k)] else S.lost⟩ := by
    simp only [stepP, hrr, hqq]
  rw [hS]
  generalize hxx : nameOf q k = nm
  have hnl : 0 < nm.length ∧ nm.length ≤ 10 := hxx ▸ nameOf_len q (by omega)
  generalize hcc : cellOf S.n q = c
  have hc : c.fine := by
    subst hcc
    unfold cellOf
    cases isSub q with
    | true => trivial
    | false =>
      show -500 ≤ (q.fdiv 9).fmod 1000 - 500 ∧ (q.fdiv 9).fmod 1000 - 500 < 500
      rw [Int.fmod_eq_emod_of_nonneg _ (by decide)]
      omega
  have hkid : ∀ j, c = .sub j → j = S.n ∧ isSub q = true := by
    intro j e
    subst hcc
    unfold cellOf at e
    cases h : isSub q with
    | true => rw [h] at e; simp at e; exact ⟨e.symm, rfl⟩
    | false => rw [h] at e; simp at e
  have hkid' : c.kid = if isSub q then [S.n] else [] := by
    subst hcc
    unfold cellOf
    cases isSub q <;> rfl
  have hnew : nm ∉ t.pre := by
    intro h
    obtain ⟨q', k', h1, h2⟩ := I.nm _ h
    have := nameOf_inj (by omega) (by omega) (hxx.trans h2)
    omega
  have hnewr : ∀ i, nm ∉ (S.ar i).map (·.1) := fun i h => hnew (I.rp i _ h)
  obtain ⟨⟨a, b, p1, p2⟩, ⟨a', b', i1, i2⟩, e5⟩ := add_once (r := r) (x := nm) (c := c) t 0 I.idn ((I.ids r).mpr hr)
  have hsub : ∀ j, c = .sub j → addAr S.ar r nm c j = [] := by
    intro j e
    obtain ⟨e, _⟩ := hkid j e
    subst e
    unfold addAr
    rw [if_neg (by omega), I.far _ (Nat.le_refl _)]
  have hle : S.n ≤ if isSub q = true then S.n + 1 else S.n := by split <;> omega
  have hmem : ∀ i y, y ∈ (addAr S.ar r nm c i).map (·.1) ↔ y ∈ (S.ar i).map (·.1) ∨ (i = r ∧ y = nm) := by
    intro i y
    unfold addAr
    by_cases e : i = r
    · rw [if_pos e]; simp [e]
    · rw [if_neg e]; simp [e]
  have hrow0 := spells_add hsub I.sp 0
  refine { sp := ?_, idn := ?_, ids := ?_, pn := ?_, size := by rw [e5, I.size], nm := ?_, ok := ok_add hnl hc t 0 I.ok hnew, nn := ?_, n0 := Nat.lt_of_lt_of_le I.n0 hle, nk := ?_, far := ?_, rn := ?_, cf := ?_, rp := ?_, own := ?_, lo := ?_, ln := ?_, lk := ?_ }
  · have e : addAr S.ar r nm c 0 = if 0 = r then S.ar 0 ++ [(nm, c)] else S.ar 0 := rfl
    show Spells (addAr S.ar r nm c) (addAr S.ar r nm c 0) _
    rw [e]; exact hrow0
  · rw [i2, hkid']
    have hd := I.idn
    rw [i1] at hd
    cases h : isSub q with
    | false => simpa [h] using hd
    | true =>
      simp only [if_true, List.singleton_append]
      have hnn : S.n ∉ 0 :: (a' ++ b') := by
        rw [← i1]
        intro h
        have := (I.ids S.n).mp h
        omega
      have hp : (0 :: (a' ++ S.n :: b')).Perm (S.n :: (0 :: (a' ++ b'))) := by
        have h1 : (a' ++ S.n :: b').Perm (S.n :: (a' ++ b')) := List.perm_middle
        exact (h1.cons 0).trans (List.Perm.swap _ _ _)
      exact hp.nodup_iff.mpr (List.nodup_cons.mpr ⟨hnn, hd⟩)
  · intro i
    rw [i2, hkid']
    have h0 := I.ids i
    rw [i1] at h0
    show _ ↔ i < if isSub q = true then S.n + 1 else S.n
    cases h : isSub q with
    | false => simpa using h0
    | true =>
      simp only [List.mem_cons, List.mem_append, if_true, List.not_mem_nil, or_false] at h0 ⊢
      constructor
      · rintro (e | e | e | e)
        · have := h0.mp (.inl e); omega
        · have := h0.mp (.inr (.inl e)); omega
        · omega
        · have := h0.mp (.inr (.inr e)); omega
      · intro e
        by_cases q : i = S.n
        · exact .inr (.inr (.inl q))
        · rcases h0.mpr (by omega) with e | e | e
          · exact .inl e
          · exact .inr (.inl e)
          · exact .inr (.inr (.inr e))
  · rw [p2]
    have hd := I.pn
    rw [p1] at hd hnew
    exact List.perm_middle.nodup_iff.mpr (List.nodup_cons.mpr ⟨hnew, hd⟩)
  · intro y hy
    rw [p2] at hy
    have : y = nm ∨ y ∈ t.pre := by
      rw [p1]
      simp only [List.mem_append, List.mem_cons] at hy ⊢
      rcases hy with h | h | h <;> simp [h]
    rcases this with rfl | h
    · exact ⟨q, k, by omega, hxx.symm⟩
    · obtain ⟨q', k', h1, h2⟩ := I.nm y h
      exact ⟨q', k', by omega, h2⟩
  · rw [names_add]
    by_cases e : 0 = r
    · rw [if_pos e]
      refine List.nodup_append.mpr ⟨I.nn, by simp, fun a ha b hb => ?_⟩
      rw [List.mem_singleton.mp hb]
      exact fun e => hnew (names_pre t nm (e ▸ ha))
    · rw [if_neg e]; exact I.nn
  · have := I.nk
    show (if isSub q = true then S.n + 1 else S.n) ≤ k + 1 + 1
    split <;> omega
  · intro i hi
    have hi : S.n ≤ i := Nat.le_trans hle hi
    show addAr S.ar r nm c i = []
    unfold addAr
    rw [if_neg (by omega), I.far i hi]
  · intro i
    show ((addAr S.ar r nm c i).map (·.1)).Nodup
    unfold addAr
    by_cases e : i = r
    · rw [if_pos e, List.map_append]
      refine List.nodup_append.mpr ⟨I.rn i, by simp, fun a ha b hb => ?_⟩
      have hb' : b = nm := by simpa using hb
      rw [hb']
      exact fun e => hnewr i (e ▸ ha)
    · rw [if_neg e]; exact I.rn i
  · intro i y c' hy
    have hy : (y, c') ∈ addAr S.ar r nm c i := hy
    have : (y, c') ∈ S.ar i ∨ c' = c := by
      unfold addAr at hy
      by_cases e : i = r
      · rw [if_pos e] at hy
        rcases List.mem_append.mp hy with h | h
        · exact .inl h
        · exact .inr (by have := List.mem_singleton.mp h; cases this; rfl)
      · rw [if_neg e] at hy; exact .inl hy
    rcases this with h | rfl
    · obtain ⟨h1, h2⟩ := I.cf i y c' h
      exact ⟨h1, fun j e => Nat.lt_of_lt_of_le (h2 j e) hle⟩
    · refine ⟨hc, fun j e => ?_⟩
      obtain ⟨e1, e2⟩ := hkid j e
      show j < if isSub q = true then S.n + 1 else S.n
      rw [e2, if_pos rfl]; omega
  · intro i y hy
    rw [p2]
    rcases (hmem i y).mp hy with h | ⟨_, rfl⟩
    · have := I.rp i y h
      rw [p1] at this
      simp only [List.mem_append, List.mem_cons] at this ⊢
      rcases this with h | h <;> simp [h]
    · simp
  · intro i j y hi hj
    rcases (hmem i y).mp hi with h | ⟨h, e⟩
    · rcases (hmem j y).mp hj with h' | ⟨_, e⟩
      · exact I.own i j y h h'
      · exact absurd (e ▸ h) (hnewr i)
    · rcases (hmem j y).mp hj with h' | ⟨h', _⟩
      · exact absurd (e ▸ h') (hnewr j)
      · rw [h, h']
  · intro y hy
    have hy : y ∈ if q.fmod 7 = 3 then S.lost ++ [(r, nm)] else S.lost := hy
    have : y ∈ S.lost ∨ y = (r, nm) := by
      split at hy
      · rcases List.mem_append.mp hy with h | h
        · exact .inl h
        · exact .inr (List.mem_singleton.mp h)
      · exact .inl hy
    rcases this with h | rfl
    · obtain ⟨h1, h2⟩ := I.lo y h
      exact ⟨Nat.lt_of_lt_of_le h1 hle, (hmem _ _).mpr (.inl h2)⟩
    · exact ⟨Nat.lt_of_lt_of_le hr hle, (hmem _ _).mpr (.inr ⟨rfl, rfl⟩)⟩
  · show ((if q.fmod 7 = 3 then S.lost ++ [(r, nm)] else S.lost).map (·.2)).Nodup
    split
    · rw [List.map_append]
      refine List.nodup_append.mpr ⟨I.ln, by simp, fun a ha b hb => ?_⟩
      have hb' : b = nm := by simpa using hb
      rw [hb']
      obtain ⟨y, hy, rfl⟩ := List.mem_map.mp ha
      exact fun e => hnewr y.1 (e ▸ (I.lo y hy).2)
    · exact I.ln
  · have := I.lk
    show (if q.fmod 7 = 3 then S.lost ++ [(r, nm)] else S.lost).length ≤ k + 1
    split
    · simp; omega
    · omega
theorem pinv_at (xs : List Int) : ∀ k, k ≤ 100 → ∃ t, PInv (psAt xs k) k t
  | 0, _ => ⟨_, pinv_zero xs⟩
  | k + 1, h => by
    obtain ⟨t, I⟩ := pinv_at xs k (by omega)
    exact ⟨_, pinv_step I (by omega) (xs.getD k 0)⟩
end Mine
end -- P5
section -- P6
open PySem PySem.W PyProof.Rows PySem.Calls PySem.Spec
namespace Mine
/-! law 01, plain: where the names stand in the text -/
noncomputable def isLet (c : Nat) : Bool := decide (120 ≤ c ∧ c ≤ 122)
/-- signs between the names and names, the sign = behind each -/
inductive Toks : List Str → List Nat → Prop
  | nil {l : List Nat} : (∀ c ∈ l, isLet c = false) → Toks [] l
  | cons {sep : List Nat} {y : Str} {ys : List Str} {r : List Nat} : (∀ c ∈ sep, isLet c = false) → NameOk y → Toks ys (61 :: r) → Toks (y :: ys) (sep ++ (y.cps.toList ++ 61 :: r))
theorem Toks.pad {ys : List Str} {l sep : List Nat} (h : Toks ys l) (hs : ∀ c ∈ sep, isLet c = false) : Toks ys (sep ++ l) := by
  cases h with
  | nil h1 => exact .nil fun c hc => (List.mem_append.mp hc).elim (hs c) (h1 c)
  | cons h1 h2 h3 =>
    rw [← List.append_assoc]
    exact .cons (fun c hc => (List.mem_append.mp hc).elim (hs c) (h1 c)) h2 h3
theorem dig_let {c : Nat} (h : isDig c = true) : isLet c = false := by
  simp only [isDig, isLet, decide_eq_true_eq, decide_eq_false_iff_not] at *; omega
theorem int_noLet (i : Int) (h : -500 ≤ i ∧ i < 500) : ∀ c ∈ (Str.ofString (toString i)).cps.toList, isLet c = false := by
  obtain ⟨c, d, e, _, h3, _, h5⟩ := digitsOf i h
  rw [e]
  intro x hx
  rcases List.mem_cons.mp hx with rfl | hx
  · rcases h5 with rfl | h5
    · rfl
    · exact dig_let h5
  · exact dig_let (h3 x hx)
theorem star_noLet (n k : Nat) : ∀ c ∈ (starText (starsOf n k)).cps.toList, isLet c = false := fun c hc => by rw [star_chars _ c hc]; rfl
/-- the rows' text, anything behind -/
theorem toks_rows : ∀ (t : T) (n k : Nat) (ys : List Str) (r : List Nat), t.ok → (∀ x ∈ t.pre, NameOk x) → Toks ys r → Toks (t.pre ++ ys) (rowsText t n k ++ r)
  | .nil, _, _, _, _, _, _, h => h
  | .num x i rest, n, k, ys, r, hok, hnm, h => by
    have ih := toks_rows rest n (k + 1) ys r hok.2.2 (fun y hy => hnm y (.tail _ hy)) h
    rw [rowsText_num, mark, ls_append]
    simp only [T.pre, List.cons_append, List.append_assoc]
    refine .cons (star_noLet n k) (hnm x (.head _)) ?_
    have hi := int_noLet i hok.2.1
    by_cases hr : rest.texts n (k + 1) = []
    · rw [if_pos hr]
      have := texts_nil hr
      subst this
      exact Toks.pad (sep := [61] ++ (Str.ofString (toString i)).cps.toList) h (fun c hc => (List.mem_append.mp hc).elim (fun q => by rw [List.mem_singleton.mp q]; rfl) (hi c)) |> (by simpa [T.pre] using ·)
    · rw [if_neg hr]
      have := Toks.pad (sep := [61] ++ (Str.ofString (toString i)).cps.toList ++ [44, 32]) ih (fun c hc => by
        rcases List.mem_append.mp hc with q | q
        · rcases List.mem_append.mp q with q | q
          · rw [List.mem_singleton.mp q]; rfl
          · exact hi c q
        · simp only [List.mem_cons, List.not_mem_nil, or_false] at q
          rcases q with rfl | rfl <;> rfl)
      simpa using this
  | .sub x j s rest, n, k, ys, r, hok, hnm, h => by
    have ih := toks_rows rest n (k + 1) ys r hok.2.2.2 (fun y hy => hnm y (.tail _ (List.mem_append_right _ hy))) h
    rw [rowsText_sub, mark, ls_append, text_ls]
    simp only [T.pre, List.cons_append, List.append_assoc]
    refine .cons (star_noLet n k) (hnm x (.head _)) ?_
    have tail : Toks (rest.pre ++ ys) ([41] ++ ((if rest.texts n (k + 1) = [] then [] else 44 :: 32 :: rowsText rest n (k + 1)) ++ r)) := by
      by_cases hr : rest.texts n (k + 1) = []
      · rw [if_pos hr]
        have := texts_nil hr
        subst this
        exact Toks.pad (sep := [41]) h fun c hc => by rw [List.mem_singleton.mp hc]; rfl
      · rw [if_neg hr]
        have := Toks.pad (sep := [41, 44, 32]) ih fun c hc => by
          simp only [List.mem_cons, List.not_mem_nil, or_false] at hc
          rcases hc with rfl | rfl | rfl <;> rfl
        simpa using this
    have inner := toks_rows s s.len 0 (rest.pre ++ ys) _ hok.2.2.1 (fun y hy => hnm y (.tail _ (List.mem_append_left _ hy))) tail
    have := Toks.pad (sep := [61, 40]) inner fun c hc => by
      simp only [List.mem_cons, List.not_mem_nil, or_false] at hc
      rcases hc with rfl | rfl <;> rfl
    simpa using this
theorem toks_text (t : T) (hok : t.ok) (hnm : ∀ x ∈ t.pre, NameOk x) : Toks t.pre t.text.cps.toList := by
  have h := toks_rows t t.len 0 [] [41] hok hnm (.nil fun c hc => by rw [List.mem_singleton.mp hc]; rfl)
  rw [List.append_nil] at h
  have := Toks.pad (sep := [40]) h fun c hc => by rw [List.mem_singleton.mp hc]; rfl
  rw [text_ls]
  simpa using this
/-- the name and = stand at v -/
noncomputable def At (l : List Nat) (y : Str) (v : Nat) : Prop := (y.cps.toList ++ [61]) <+: l.drop v
theorem At.head {l : List Nat} {y : Str} {v : Nat} (h : At l y v) (hy : NameOk y) : ∃ c, l[v]? = some c ∧ isLet c = true := by
  obtain ⟨c, ds, e, hc, _⟩ := hy
  obtain ⟨z, hz⟩ := h
  rw [e] at hz
  refine ⟨c, ?_, ?_⟩
  · have : (l.drop v)[0]? = some c := by rw [← hz]; rfl
    simpa using this
  · rcases hc with rfl | rfl | rfl <;> rfl
theorem same_name {y z : Str} {r : List Nat} (hy : NameOk y) (hz : NameOk z) (h : (z.cps.toList ++ [61]) <+: (y.cps.toList ++ 61 :: r)) : z = y := by
  obtain ⟨c, ds, e, _, hd⟩ := hy
  obtain ⟨c', ds', e', _, hd'⟩ := hz
  have key : ∀ (a b r : List Nat), (∀ x ∈ a, isDig x = true) → (∀ x ∈ b, isDig x = true) → (a ++ [61]) <+: (b ++ 61 :: r) → a = b := by
    intro a
    induction a with
    | nil =>
      intro b r _ hb h
      cases b with
      | nil => rfl
      | cons x b =>
        exfalso
        obtain ⟨z, hz⟩ := h
        have : (61 : Nat) = x := by simpa using congrArg (·.head?) hz
        have h2 := hb x (.head _)
        rw [← this] at h2
        exact absurd h2 (by decide)
    | cons x a ih =>
      intro b r ha hb h
      cases b with
      | nil =>
        exfalso
        obtain ⟨z, hz⟩ := h
        have : x = 61 := by simpa using congrArg (·.head?) hz
        have h2 := ha x (.head _)
        rw [this] at h2
        exact absurd h2 (by decide)
      | cons w b =>
        obtain ⟨z, hz⟩ := h
        simp only [List.cons_append, List.cons.injEq] at hz
        rw [hz.1, ih b r (fun q hq => ha q (.tail _ hq)) (fun q hq => hb q (.tail _ hq)) ⟨z, by simpa using hz.2⟩]
  rw [e, e'] at h
  obtain ⟨u, hu⟩ := h
  simp only [List.cons_append, List.cons.injEq] at hu
  have := key ds' ds r hd' hd ⟨u, by simpa using hu.2⟩
  have e2 : z.cps.toList = y.cps.toList := by rw [e, e', hu.1, this]
  cases z; cases y; simp only [Str.mk.injEq]; exact Array.toList_inj.mp e2
theorem toks_off {names : List Str} {l : List Nat} (h : Toks names l) (nd : names.Nodup) : ∃ off : Str → Nat, (∀ z, NameOk z → ∀ v, At l z v ↔ (z ∈ names ∧ v = off z)) ∧ names.Pairwise (fun a b => off a < off b) := by
  induction h with
  | @nil l h =>
    refine ⟨fun _ => 0, fun z hz v => ⟨fun ha => ?_, fun ha => nomatch ha.1⟩, .nil⟩
    obtain ⟨c, h1, h2⟩ := ha.head hz
    rw [h c (List.mem_of_getElem? h1)] at h2
    cases h2
  | @cons sep y ys r hsep hy hT ih =>
    obtain ⟨hny, hnd⟩ := List.nodup_cons.mp nd
    obtain ⟨off, h1, h2⟩ := ih hnd
    have hdrop : ∀ v, (sep ++ (y.cps.toList ++ 61 :: r)).drop (sep.length + y.cps.toList.length + v) = (61 :: r).drop v := fun v => by
      rw [← List.append_assoc, show sep.length + y.cps.toList.length + v = (sep ++ y.cps.toList).length + v by simp, List.drop_append, List.drop_of_length_le (by simp)]
      simp
    obtain ⟨Fo, f1, f2⟩ : ∃ Fo : Str → Nat, Fo y = sep.length ∧ ∀ z ∈ ys, Fo z = sep.length + y.cps.toList.length + off z :=
      ⟨fun z => if z = y then sep.length else sep.length + y.cps.toList.length + off z, by simp, fun z hz => by
        have hne : z ≠ y := fun q => hny (q ▸ hz)
        simp [hne]⟩
    refine ⟨Fo, fun z hz v => ?_, ?_⟩
    · by_cases hv : v < sep.length + y.cps.toList.length
      · constructor
        · intro ha
          obtain ⟨c, g1, g2⟩ := ha.head hz
          have hvs : v = sep.length := by
            rcases Nat.lt_trichotomy v sep.length with q | q | q
            · rw [List.getElem?_append_left q] at g1
              rw [hsep c (List.mem_of_getElem? g1)] at g2; cases g2
            · exact q
            · exfalso
              rw [List.getElem?_append_right (by omega), List.getElem?_append_left (by omega)] at g1
              obtain ⟨c₀, ds, e, _, hd⟩ := hy
              rw [e] at g1
              obtain ⟨j, hj⟩ : ∃ j, v - sep.length = j + 1 := ⟨v - sep.length - 1, by omega⟩
              rw [hj, List.getElem?_cons_succ] at g1
              rw [dig_let (hd c (List.mem_of_getElem? g1))] at g2; cases g2
          subst hvs
          have : z = y := by
            unfold At at ha
            rw [List.drop_left] at ha
            exact same_name hy hz ha
          subst this
          exact ⟨.head _, f1.symm⟩
        · rintro ⟨hm, he⟩
          rcases List.mem_cons.mp hm with rfl | hm
          · rw [f1] at he
            subst he
            unfold At
            rw [List.drop_left]
            exact ⟨r, by simp⟩
          · rw [f2 z hm] at he
            omega
      · obtain ⟨u, rfl⟩ : ∃ u, v = sep.length + y.cps.toList.length + u := ⟨v - (sep.length + y.cps.toList.length), by omega⟩
        have e : At (sep ++ (y.cps.toList ++ 61 :: r)) z (sep.length + y.cps.toList.length + u) ↔ At (61 :: r) z u := by
          unfold At; rw [hdrop]
        rw [e, h1 z hz u]
        have hyl : 0 < y.cps.toList.length := by
          obtain ⟨c₀, ds, e, _⟩ := hy
          rw [e]; simp
        constructor
        · rintro ⟨hm, rfl⟩
          exact ⟨.tail _ hm, (f2 z hm).symm⟩
        · rintro ⟨hm, he⟩
          rcases List.mem_cons.mp hm with rfl | hm
          · rw [f1] at he; omega
          · rw [f2 z hm] at he
            exact ⟨hm, by omega⟩
    · refine List.pairwise_cons.mpr ⟨fun b hb => ?_, ?_⟩
      · rw [f1, f2 b hb]
        have hyl : 0 < y.cps.toList.length := by
          obtain ⟨c₀, ds, e, _⟩ := hy
          rw [e]; simp
        omega
      · refine h2.imp_of_mem fun {a b} ha hb hab => ?_
        rw [f2 a ha, f2 b hb]
        omega
end Mine
end -- P6
section -- P7
open PySem PySem.W PyProof.Rows PySem.Calls PySem.Spec
namespace Mine
theorem miss_find (lost : Str → Bool) : ∀ t : T, t.miss lost = t.pre.find? lost
  | .nil => rfl
  | .num x i r => by
    simp only [T.miss, T.pre, List.find?_cons, miss_find lost r]
    cases lost x <;> rfl
  | .sub x j k r => by
    simp only [T.miss, T.pre, List.find?_cons, List.find?_append, miss_find lost k, miss_find lost r]
    cases lost x with
    | true => rfl
    | false => cases List.find? lost k.pre <;> rfl
theorem find_min {p : Str → Bool} {off : Str → Nat} : ∀ {names : List Str}, names.Pairwise (fun a b => off a < off b) → ∀ {y : Str}, names.find? p = some y → p y = true ∧ y ∈ names ∧ ∀ z ∈ names, p z = true → z = y ∨ off y < off z
  | [], _, y, h => by cases h
  | a :: l, pw, y, h => by
    obtain ⟨h1, h2⟩ := List.pairwise_cons.mp pw
    rw [List.find?_cons] at h
    cases q : p a with
    | true =>
      rw [q] at h
      cases h
      exact ⟨q, .head _, fun z hz _ => by
        rcases List.mem_cons.mp hz with rfl | hz
        · exact .inl rfl
        · exact .inr (h1 z hz)⟩
    | false =>
      rw [q] at h
      obtain ⟨g1, g2, g3⟩ := find_min h2 h
      exact ⟨g1, .tail _ g2, fun z hz hp => by
        rcases List.mem_cons.mp hz with rfl | hz
        · rw [q] at hp; cases hp
        · exact g3 z hz hp⟩
theorem at_iff {x y : Str} {i : Nat} : StrLaws.At x (y ++ Str.ofString "=") x.length i ↔ At x.cps.toList y i := by
  have e : (y ++ Str.ofString "=").cps.toList = y.cps.toList ++ [61] := by rw [ls_append]; rfl
  have el : (y ++ Str.ofString "=").length = (y.cps.toList ++ [61]).length := by rw [Str.length, ← Array.length_toList, e]
  unfold StrLaws.At At
  rw [StrLaws.subAt_eq, e, el, beq_iff_eq, List.prefix_iff_eq_take]
  constructor
  · rintro ⟨_, h⟩; exact h.symm
  · intro h
    refine ⟨?_, h.symm⟩
    have h2 := congrArg List.length h
    rw [List.length_take, List.length_drop] at h2
    have : x.cps.toList.length = x.length := by simp [Str.length]
    simp only [List.length_append, List.length_cons, List.length_nil] at h2 ⊢
    omega
theorem index_of {x y : Str} {k : Nat} (h : ∀ v, At x.cps.toList y v ↔ v = k) : ∃ rest, Builtin.Str.occurrences x (y ++ Str.ofString "=") 0 x.length 1 = k :: rest := by
  rcases StrLaws.occ_head_from x (y ++ Str.ofString "=") 0 1 (Nat.le_refl 1) with ⟨_, hn⟩ | ⟨i, r, h0, _, hi, _⟩
  · exact absurd (at_iff.mpr ((h k).mpr rfl)) (hn k (Nat.zero_le _))
  · have := (h i).mp (at_iff.mp hi)
    subst this
    exact ⟨r, h0⟩
/-- where the names stand, and that the first lost one stands first -/
theorem text_offs (t : T) (hok : t.ok) (hnm : ∀ x ∈ t.pre, NameOk x) (nd : t.pre.Nodup) : ∃ off : Str → Nat, (∀ z ∈ t.pre, ∃ rest, Builtin.Str.occurrences t.text (z ++ Str.ofString "=") 0 t.text.length 1 = off z :: rest) ∧
    (∀ z ∈ t.pre, off z ≤ t.text.length) ∧ (∀ a ∈ t.pre, ∀ b ∈ t.pre, off a = off b → a = b) ∧
    ∀ (lost : Str → Bool) (y : Str), t.miss lost = some y → lost y = true ∧ y ∈ t.pre ∧ ∀ z ∈ t.pre, lost z = true → z = y ∨ off y < off z := by
  obtain ⟨off, h1, h2⟩ := toks_off (toks_text t hok hnm) nd
  have hat : ∀ z ∈ t.pre, ∀ v, At t.text.cps.toList z v ↔ v = off z := fun z hz v => by
    rw [h1 z (hnm z hz) v]; exact ⟨fun h => h.2, fun h => ⟨hz, h⟩⟩
  refine ⟨off, fun z hz => index_of (hat z hz), fun z hz => ?_, fun a ha b hb e => ?_, fun lost y hy => ?_⟩
  · have := at_iff.mpr ((hat z hz (off z)).mpr rfl)
    have := this.1
    omega
  · have q1 := (hat a ha (off a)).mpr rfl
    have q2 := (hat b hb (off a)).mpr e
    obtain ⟨u1, g1⟩ := q1
    obtain ⟨u2, g2⟩ := q2
    exact same_name (hnm b hb) (hnm a ha) (r := u2) ⟨u1, by rw [g1, ← g2]; simp⟩
  · rw [miss_find] at hy
    exact find_min h2 hy
end Mine
end -- P7
section -- L0
open PySem PySem.W PyProof.Rows PySem.Calls PySem.Spec
namespace Mine
/-! law 01: the frames in the ledger -/
noncomputable def CellV (ad : Nat → Addr) (v : Value) : Cell → Prop
  | .num i => ∃ t, v = Value.int i t
  | .sub j => v = Value.ref (ad j)
noncomputable def KvsAre (ad : Nat → Addr) : List (Str × Value) → Rows → Prop := Rel2 fun kv r => kv.1 = r.1 ∧ CellV ad kv.2 r.2
noncomputable abbrev pairObj (a b : Value) (u : Nat) : Obj := ⟨.type "tuple", none, .seq #[a, b] u, #[]⟩
structure FrIn (w : World) (led : List (Addr × Obj)) (ad : Nat → Addr) (a nm dd : Addr) (names : List Str) (drows : Rows) : Prop where
  fr : ∃ c, (a, W.listOf (List.toArray [Value.ref nm, Value.ref dd]) c) ∈ led
  nms : ∃ vs c, (nm, W.listOf (List.toArray vs) c) ∈ led ∧ StrsAre vs names
  dic : ∃ o kvs, (dd, o) ∈ led ∧ o.IsDictOf (strKind PySem.Challenge.pw_dw0016_01 w) kvs ∧ KvsAre ad kvs drows
  sys : (dd == sysModules) = false
noncomputable def LostIn (led : List (Addr × Obj)) (ad : Nat → Addr) (tag : Addr → Nat) : List Value → List (Nat × Str) → Prop :=
  Rel2 fun v y => ∃ T t u, v = Value.ref T ∧ (T, pairObj (Value.ref (ad y.1)) (Value.str y.2 t) u) ∈ led ∧ tag T = 0
structure BSt (w : World) (led : List (Addr × Obj)) (FA LO NU : Addr) (nv : List Value) (n : Nat) (nms : Nat → List Str) (drows : Nat → Rows) (lost : List (Nat × Str)) (ad nm dd : Nat → Addr) (tag : Addr → Nat) : Prop where
  fa : ∃ c, (FA, W.listOf (List.toArray ((List.range n).map fun i => Value.ref (ad i))) c) ∈ led
  lo : ∃ vs c, (LO, W.listOf (List.toArray vs) c) ∈ led ∧ LostIn led ad tag vs lost
  nu : ∃ c, (NU, W.listOf (List.toArray nv) c) ∈ led
  fr : ∀ i, i < n → FrIn w led ad (ad i) (nm i) (dd i) (nms i) (drows i)
  tf : tag FA = 1
  tl : tag LO = 2
  tn : tag NU = 3
  ta : ∀ i, i < n → tag (ad i) = 3 * i + 5 ∧ tag (nm i) = 3 * i + 6 ∧ tag (dd i) = 3 * i + 7
  kids : ∀ i, i < n → ∀ y ∈ drows i, ∀ j, y.2 = .sub j → j < n
  lol : ∀ y ∈ lost, y.1 < n
theorem CellV.congr {ad ad' : Nat → Addr} {v : Value} {c : Cell} (h : CellV ad v c) (e : ∀ j, c = .sub j → ad' j = ad j) : CellV ad' v c := by
  cases c with
  | num i => exact h
  | sub j => show v = Value.ref (ad' j); rw [e j rfl]; exact h
theorem Rel2.of_mem {α β : Type} {P P' : α → β → Prop} {as : List α} {bs : List β} (h : Rel2 P as bs) (f : ∀ a b, a ∈ as → b ∈ bs → P a b → P' a b) : Rel2 P' as bs := by
  induction h with
  | nil => exact .nil
  | cons p _ ih => exact .cons (f _ _ (.head _) (.head _) p) (ih fun a b ha hb => f a b (.tail _ ha) (.tail _ hb))
theorem Rel2.length {α β : Type} {P : α → β → Prop} {as : List α} {bs : List β} (h : Rel2 P as bs) : as.length = bs.length := by
  induction h with
  | nil => rfl
  | cons _ _ ih => simp [ih]
theorem Rel2.snoc {α β : Type} {P : α → β → Prop} {as : List α} {bs : List β} {a : α} {b : β} (h : Rel2 P as bs) (p : P a b) : Rel2 P (as ++ [a]) (bs ++ [b]) := by
  induction h with
  | nil => exact .cons p .nil
  | cons q _ ih => exact .cons q ih
section
variable {w : World} {led led' : List (Addr × Obj)} {FA LO NU : Addr} {nv : List Value} {n : Nat} {nms : Nat → List Str} {drows : Nat → Rows} {lost : List (Nat × Str)} {ad nm dd : Nat → Addr} {tag : Addr → Nat}
theorem FrIn.more {a m d : Addr} {names : List Str} {dr : Rows} (x : FrIn w led ad a m d names dr) (h : ∀ q ∈ led, q.1 = a ∨ q.1 = m ∨ q.1 = d → q ∈ led') : FrIn w led' ad a m d names dr := by
  obtain ⟨⟨c, f1⟩, ⟨vs, c', f2, f3⟩, ⟨o, kvs, f4, f5⟩, f6⟩ := x
  exact ⟨⟨c, h _ f1 (.inl rfl)⟩, ⟨vs, c', h _ f2 (.inr (.inl rfl)), f3⟩, ⟨o, kvs, h _ f4 (.inr (.inr rfl)), f5⟩, f6⟩
/-- nothing of these has changed -/
theorem BSt.more (B : BSt w led FA LO NU nv n nms drows lost ad nm dd tag) (h : ∀ q ∈ led, tag q.1 ≠ 4 → q ∈ led') : BSt w led' FA LO NU nv n nms drows lost ad nm dd tag := by
  obtain ⟨⟨c1, f1⟩, ⟨vs, c2, f2, f3⟩, ⟨c3, f4⟩, f5, f6, f7, f8, f9, f10, f11⟩ := B
  refine ⟨⟨c1, h _ f1 (by rw [f6]; decide)⟩, ⟨vs, c2, h _ f2 (by rw [f7]; decide), ?_⟩, ⟨c3, h _ f4 (by rw [f8]; decide)⟩, fun i hi => (f5 i hi).more fun q hq e => h q hq ?_, f6, f7, f8, f9, f10, f11⟩
  · exact f3.mono fun v y ⟨T, t, u, e1, e2, e3⟩ => ⟨T, t, u, e1, h _ e2 (by rw [e3]; decide), e3⟩
  · obtain ⟨a1, a2, a3⟩ := f9 i hi
    rcases e with e | e | e <;> rw [e] <;> omega
/-- new tags for new objects -/
theorem BSt.retag (B : BSt w led FA LO NU nv n nms drows lost ad nm dd tag) {tag' : Addr → Nat} (h : ∀ q ∈ led, tag' q.1 = tag q.1) : BSt w led FA LO NU nv n nms drows lost ad nm dd tag' := by
  obtain ⟨⟨c1, f1⟩, ⟨vs, c2, f2, f3⟩, ⟨c3, f4⟩, f5, f6, f7, f8, f9, f10, f11⟩ := B
  refine ⟨⟨c1, f1⟩, ⟨vs, c2, f2, f3.mono fun v y ⟨T, t, u, e1, e2, e3⟩ => ⟨T, t, u, e1, e2, by rw [h _ e2]; exact e3⟩⟩, ⟨c3, f4⟩, f5, by rw [h _ f1]; exact f6, by rw [h _ f2]; exact f7, by rw [h _ f4]; exact f8, fun i hi => ?_, f10, f11⟩
  obtain ⟨⟨c, g1⟩, ⟨_, c', g2, _⟩, ⟨o, kvs, g4, _⟩, _⟩ := f5 i hi
  have e1 := h _ g1
  have e2 := h _ g2
  have e4 := h _ g4
  dsimp only at e1 e2 e4
  rw [e1, e2, e4]
  exact f9 i hi
/-- a new, empty frame -/
theorem BSt.frame (B : BSt w led FA LO NU nv n nms drows lost ad nm dd tag) {a m d : Addr} {o : Obj} {c₀ cn c : Nat} (hfa : (FA, W.listOf (List.toArray ((List.range n).map fun i => Value.ref (ad i))) c₀) ∈ led) (T : Turned led led' FA (W.listOf (List.toArray ((List.range n).map (fun i => Value.ref (ad i)) ++ [Value.ref a])) c))
    (h1 : (a, W.listOf (List.toArray [Value.ref m, Value.ref d]) 0) ∈ led) (h2 : (m, W.listOf (List.toArray []) cn) ∈ led) (h3 : (d, o) ∈ led) (hd : o.IsDictOf (strKind PySem.Challenge.pw_dw0016_01 w) []) (hs : (d == sysModules) = false)
    (t1 : tag a = 3 * n + 5) (t2 : tag m = 3 * n + 6) (t3 : tag d = 3 * n + 7) :
    BSt w led' FA LO NU nv (n + 1) (fun i => if i = n then [] else nms i) (fun i => if i = n then [] else drows i) lost (fun i => if i = n then a else ad i) (fun i => if i = n then m else nm i) (fun i => if i = n then d else dd i) tag := by
  obtain ⟨⟨c1, f1⟩, ⟨vs, c2, f2, f3⟩, ⟨c3, f4⟩, f5, f6, f7, f8, f9, f10, f11⟩ := B
  have keep : ∀ q ∈ led, tag q.1 ≠ 1 → q ∈ led' := fun q hq hn => T.old q hq fun e => hn (by rw [e]; exact f6)
  have hadn : ∀ i, i < n → (if i = n then a else ad i) = ad i := fun i hi => if_neg (by omega)
  refine ⟨⟨c, ?_⟩, ⟨vs, c2, keep _ f2 (by rw [f7]; decide), ?_⟩, ⟨c3, keep _ f4 (by rw [f8]; decide)⟩, fun i hi => ?_, f6, f7, f8, fun i hi => ?_, fun i hi y hy j e => ?_, fun y hy => Nat.lt_succ_of_lt (f11 y hy)⟩
  · have e : (List.range (n + 1)).map (fun i => Value.ref (if i = n then a else ad i)) = (List.range n).map (fun i => Value.ref (ad i)) ++ [Value.ref a] := by
      rw [List.range_succ, List.map_append]
      congr 1
      · exact List.map_congr_left fun i hi => by rw [hadn i (List.mem_range.mp hi)]
      · simp
    rw [e]; exact T.new
  · refine f3.of_mem fun v y _ hy ⟨T', t, u, e1, e2, e3⟩ => ⟨T', t, u, e1, ?_, e3⟩
    have := f11 y hy
    dsimp only
    rw [hadn _ this]
    exact keep _ e2 (by rw [e3]; decide)
  · by_cases e : i = n
    · subst e
      simp only [if_true]
      exact ⟨⟨0, keep _ h1 (by rw [t1]; omega)⟩, ⟨[], cn, keep _ h2 (by rw [t2]; omega), StrsAre.nil⟩, ⟨o, [], keep _ h3 (by rw [t3]; omega), hd, .nil⟩, hs⟩
    · have hi' : i < n := by omega
      simp only [if_neg e]
      obtain ⟨a1, a2, a3⟩ := f9 i hi'
      have x := (f5 i hi').more (led' := led') fun q hq e => keep q hq (by rcases e with e | e | e <;> rw [e] <;> omega)
      obtain ⟨g1, g2, ⟨o', kvs, g4, g5, g6⟩, g7⟩ := x
      exact ⟨g1, g2, ⟨o', kvs, g4, g5, g6.of_mem fun kv r _ hr hc => ⟨hc.1, hc.2.congr fun j e => hadn j (f10 i hi' r hr j e)⟩⟩, g7⟩
  · by_cases e : i = n
    · subst e; simp only [if_true]; exact ⟨t1, t2, t3⟩
    · simp only [if_neg e]; exact f9 i (by omega)
  · by_cases q : i = n
    · rw [if_pos q] at hy; cases hy
    · rw [if_neg q] at hy
      exact Nat.lt_succ_of_lt (f10 i (by omega) y hy j e)
/-- a name more in a frame's list of names -/
theorem BSt.named (B : BSt w led FA LO NU nv n nms drows lost ad nm dd tag) {r : Nat} (hr : r < n) {x : Str} {t : Tok} {vs : List Value} {c c' : Nat} (hm : (nm r, W.listOf (List.toArray vs) c) ∈ led) (hv : StrsAre vs (nms r)) (T : Turned led led' (nm r) (W.listOf (List.toArray (vs ++ [Value.str x t])) c')) :
    BSt w led' FA LO NU nv n (fun i => if i = r then nms i ++ [x] else nms i) drows lost ad nm dd tag := by
  obtain ⟨⟨c1, f1⟩, ⟨vs', c2, f2, f3⟩, ⟨c3, f4⟩, f5, f6, f7, f8, f9, f10, f11⟩ := B
  have ht := (f9 r hr).2.1
  have keep : ∀ q ∈ led, tag q.1 ≠ 3 * r + 6 → q ∈ led' := fun q hq hn => T.old q hq fun e => hn (by rw [e]; exact ht)
  refine ⟨⟨c1, keep _ f1 (by rw [f6]; omega)⟩, ⟨vs', c2, keep _ f2 (by rw [f7]; omega), f3.mono fun v y ⟨T', t, u, e1, e2, e3⟩ => ⟨T', t, u, e1, keep _ e2 (by rw [e3]; omega), e3⟩⟩, ⟨c3, keep _ f4 (by rw [f8]; omega)⟩, fun i hi => ?_, f6, f7, f8, f9, f10, f11⟩
  by_cases e : i = r
  · subst e
    obtain ⟨a1, a2, a3⟩ := f9 i hi
    obtain ⟨⟨c, g1⟩, _, ⟨o', kvs, g4, g5⟩, g7⟩ := f5 i hi
    simp only [if_true]
    exact ⟨⟨c, keep _ g1 (by rw [a1]; omega)⟩, ⟨_, c', T.new, hv.snoc x t⟩, ⟨o', kvs, keep _ g4 (by rw [a3]; omega), g5⟩, g7⟩
  · simp only [if_neg e]
    obtain ⟨a1, a2, a3⟩ := f9 i hi
    exact (f5 i hi).more fun q hq e => keep q hq (by rcases e with e | e | e <;> rw [e] <;> omega)
/-- a frame's new table -/
theorem BSt.tabled (B : BSt w led FA LO NU nv n nms drows lost ad nm dd tag) {r : Nat} (hr : r < n) {d : Addr} {o : Obj} {kvs : List (Str × Value)} {dr : Rows} {c c' : Nat} (hd : (d, o) ∈ led) (ho : o.IsDictOf (strKind PySem.Challenge.pw_dw0016_01 w) kvs) (hk : KvsAre ad kvs dr) (hs : (d == sysModules) = false) (hkid : ∀ y ∈ dr, ∀ j, y.2 = .sub j → j < n)
    (T : Turned led led' (ad r) (W.listOf (List.toArray [Value.ref (nm r), Value.ref d]) c')) (td : tag d = 3 * r + 7) :
    BSt w led' FA LO NU nv n nms (fun i => if i = r then dr else drows i) lost ad nm (fun i => if i = r then d else dd i) tag := by
  obtain ⟨⟨c1, f1⟩, ⟨vs', c2, f2, f3⟩, ⟨c3, f4⟩, f5, f6, f7, f8, f9, f10, f11⟩ := B
  have ht := (f9 r hr).1
  have keep : ∀ q ∈ led, tag q.1 ≠ 3 * r + 5 → q ∈ led' := fun q hq hn => T.old q hq fun e => hn (by rw [e]; exact ht)
  refine ⟨⟨c1, keep _ f1 (by rw [f6]; omega)⟩, ⟨vs', c2, keep _ f2 (by rw [f7]; omega), f3.mono fun v y ⟨T', t, u, e1, e2, e3⟩ => ⟨T', t, u, e1, keep _ e2 (by rw [e3]; omega), e3⟩⟩, ⟨c3, keep _ f4 (by rw [f8]; omega)⟩, fun i hi => ?_, f6, f7, f8, fun i hi => ?_, fun i hi y hy j e => ?_, f11⟩
  · by_cases e : i = r
    · subst e
      obtain ⟨a1, a2, a3⟩ := f9 i hi
      obtain ⟨_, ⟨vs, c, g2, g3⟩, _, _⟩ := f5 i hi
      simp only [if_true]
      exact ⟨⟨c', T.new⟩, ⟨vs, c, keep _ g2 (by rw [a2]; omega), g3⟩, ⟨o, kvs, keep _ hd (by rw [td]; omega), ho, hk⟩, hs⟩
    · simp only [if_neg e]
      obtain ⟨a1, a2, a3⟩ := f9 i hi
      exact (f5 i hi).more fun q hq e => keep q hq (by rcases e with e | e | e <;> rw [e] <;> omega)
  · by_cases e : i = r
    · subst e; simp only [if_true]; exact ⟨(f9 i hi).1, (f9 i hi).2.1, td⟩
    · simp only [if_neg e]; exact f9 i hi
  · by_cases q : i = r
    · rw [if_pos q] at hy; exact hkid y hy j e
    · rw [if_neg q] at hy; exact f10 i hi y hy j e
/-- one more name to be lost -/
theorem BSt.losing (B : BSt w led FA LO NU nv n nms drows lost ad nm dd tag) {r : Nat} (hr : r < n) {x : Str} {t : Tok} {T : Addr} {u : Nat} {vs : List Value} {c c' : Nat} (hm : (LO, W.listOf (List.toArray vs) c) ∈ led) (hv : LostIn led ad tag vs lost)
    (hT : (T, pairObj (Value.ref (ad r)) (Value.str x t) u) ∈ led) (tT : tag T = 0) (U : Turned led led' LO (W.listOf (List.toArray (vs ++ [Value.ref T])) c')) :
    BSt w led' FA LO NU nv n nms drows (lost ++ [(r, x)]) ad nm dd tag := by
  obtain ⟨⟨c1, f1⟩, _, ⟨c3, f4⟩, f5, f6, f7, f8, f9, f10, f11⟩ := B
  have keep : ∀ q ∈ led, tag q.1 ≠ 2 → q ∈ led' := fun q hq hn => U.old q hq fun e => hn (by rw [e]; exact f7)
  have hv' : LostIn led' ad tag vs lost := hv.mono fun v y ⟨T', t, u, e1, e2, e3⟩ => ⟨T', t, u, e1, keep _ e2 (by rw [e3]; decide), e3⟩
  refine ⟨⟨c1, keep _ f1 (by rw [f6]; decide)⟩, ⟨_, c', U.new, Rel2.snoc hv' ⟨T, t, u, rfl, keep _ hT (by rw [tT]; decide), tT⟩⟩, ⟨c3, keep _ f4 (by rw [f8]; decide)⟩, fun i hi => ?_, f6, f7, f8, f9, f10, fun y hy => ?_⟩
  · obtain ⟨a1, a2, a3⟩ := f9 i hi
    exact (f5 i hi).more fun q hq e => keep q hq (by rcases e with e | e | e <;> rw [e] <;> omega)
  · rcases List.mem_append.mp hy with h | h
    · exact f11 y h
    · rw [List.mem_singleton.mp h]; exact hr
/-- a frame's table has changed in its place -/
theorem BSt.cut (B : BSt w led FA LO NU nv n nms drows lost ad nm dd tag) {r : Nat} (hr : r < n) {o : Obj} {kvs : List (Str × Value)} {dr : Rows} (ho : o.IsDictOf (strKind PySem.Challenge.pw_dw0016_01 w) kvs) (hk : KvsAre ad kvs dr) (hkid : ∀ y ∈ dr, ∀ j, y.2 = .sub j → j < n)
    (T : Turned led led' (dd r) o) : BSt w led' FA LO NU nv n nms (fun i => if i = r then dr else drows i) lost ad nm dd tag := by
  obtain ⟨⟨c1, f1⟩, ⟨vs', c2, f2, f3⟩, ⟨c3, f4⟩, f5, f6, f7, f8, f9, f10, f11⟩ := B
  have ht := (f9 r hr).2.2
  have keep : ∀ q ∈ led, tag q.1 ≠ 3 * r + 7 → q ∈ led' := fun q hq hn => T.old q hq fun e => hn (by rw [e]; exact ht)
  refine ⟨⟨c1, keep _ f1 (by rw [f6]; omega)⟩, ⟨vs', c2, keep _ f2 (by rw [f7]; omega), f3.mono fun v y ⟨T', t, u, e1, e2, e3⟩ => ⟨T', t, u, e1, keep _ e2 (by rw [e3]; omega), e3⟩⟩, ⟨c3, keep _ f4 (by rw [f8]; omega)⟩, fun i hi => ?_, f6, f7, f8, f9, fun i hi y hy j e => ?_, f11⟩
  · by_cases e : i = r
    · subst e
      obtain ⟨a1, a2, a3⟩ := f9 i hi
      obtain ⟨⟨c, g1⟩, ⟨vs, c', g2, g3⟩, _, g7⟩ := f5 i hi
      simp only [if_true]
      exact ⟨⟨c, keep _ g1 (by rw [a1]; omega)⟩, ⟨vs, c', keep _ g2 (by rw [a2]; omega), g3⟩, ⟨o, kvs, T.new, ho, hk⟩, g7⟩
    · simp only [if_neg e]
      obtain ⟨a1, a2, a3⟩ := f9 i hi
      exact (f5 i hi).more fun q hq e => keep q hq (by rcases e with e | e | e <;> rw [e] <;> omega)
  · by_cases q : i = r
    · rw [if_pos q] at hy; exact hkid y hy j e
    · rw [if_neg q] at hy; exact f10 i hi y hy j e
end
end Mine
end -- L0
section -- L1
open PySem PySem.W PyProof.Rows PySem.Calls PySem.Spec
set_option maxHeartbeats 8000000
namespace Mine
variable {w : World} {base : Heap} {p : Program} {loose : List Str} {mean : ExcName → Option Value} {mg mb : Str → Option Value}
theorem ldC {M : Model} {A : Around} {E : Value → Shared → Prop} {s : Shared} {h₀ : Heap} {L a : Addr} {cd : Value} {name : Str} {scope : Scope} {m : Str → Option Value} {x : Str} {pos : Pos} {v : Value} {Q : Value → Shared → Prop} (F : Fr h₀ L s.heap m) (hv : m x = some v) (h : Q v s)
    (hk : scope.kind = .function := by rfl) (hl : (envOfC name scope L a cd).kindOf x = some .local := by rfl) (hd : (x == ("__debug__" : Str)) = false := by decide) :
    wpAny M A (eval (.Name x pos) (envOfC name scope L a cd)) Q E s := wpAny_Name (ldnLoc F hv h hk hl) hd
local macro_rules | `(tactic| walk_at "getMethod ref") => `(tactic| refine Mine.Stop.mk ?_)
local macro_rules | `(tactic| walk_at "subscriptTail Name BinOp ref int") => `(tactic| refine Mine.Stop.mk ?_)
local macro_rules | `(tactic| walk_at "subscriptTail Name Name ref int") => `(tactic| refine Mine.Stop.mk ?_)
local macro_rules | `(tactic| walk_at "call builtin:len cons nil") => `(tactic| refine Mine.Stop.mk ?_)
local macro_rules | `(tactic| walk_at "unpackItems ref") => `(tactic| (k_here; (refine unpackItemsN_ (by k_asm) (by k_asm) (by kun_tup) (by assumption) (by rfl) ?_); intro h' F' N'; (try k_sweep)))
local macro_rules | `(tactic| walk_at "nm val") => `(tactic| first | assumption | rfl | exact Mine.up_ne (by assumption) (by decide) | exact Mine.up_ne (Mine.up_ne (by assumption) (by decide)) (by decide))
local macro_rules | `(tactic| walk_at "eval Name") => `(tactic| (name_kind "local"; (rename Fr _ _ _ _ => F'); with_unfolding_all refine Mine.ldC F' (by walk_at "nm val") ?_))
noncomputable def lawStmt : Stmt := nth PySem.Challenge.pw_dw0016_01.main.body 7
noncomputable def lawBody : List Stmt := stBody lawStmt
noncomputable def forBody : Stmt → List Stmt
  | .For _ _ b _ _ => b
  | _ => []
noncomputable def bdLoop : List Stmt := forBody (nth lawBody 1)
noncomputable abbrev lawEnv (L fa : Addr) (cd : Value) : Env := envOfC (Str.ofString "law") (stScope lawStmt) L fa cd
section
variable {A : Around} {fr : List Env} {s : Shared} {h₀ h : Heap} {L fa : Addr} {cd : Value} {tk : Nat} {m : Str → Option Value} {led : List (Addr × Obj)} {E : Value → Shared → Prop} {Q : Flow → Shared → Prop}
  {FA LO NU : Addr} {nv : List Value} {n : Nat} {nms : Nat → List Str} {drows : Nat → Rows} {lost : List (Nat × Str)} {ad nm dd : Nat → Addr} {tag : Addr → Nat} {i : Nat} {ti tx : Tok} {x : Int}
theorem bd_pick (X : (hd1.heap_39 w.params).In h₀) (T : Top p loose mean mg mb h₀) (B : Below A base fr h₀) (hh : A.handled = none) (hroom : A.depth + 1 < recursionLimit) (hu : A.units + 60 < cLine)
    (F : Fr h₀ L h m) (N : News h₀ L h led) (S : BSt w led FA LO NU nv n nms drows lost ad nm dd tag) (hn0 : 0 < n) (hn1 : n ≤ 100) (hi : i < 100) (hx : nv[i]? = some (Value.int x tx))
    (m1 : m (Str.ofString "frames") = some (Value.ref FA)) (m2 : m (Str.ofString "numbers") = some (Value.ref NU)) (m3 : m (Str.ofString "k") = some (Value.int (i : Int) ti))
    (k : ∀ h' tk' m' D o tq, Fr h₀ L h' m' → News h₀ L h' ((D, o) :: led) → (∀ q ∈ led, q.1 < D) → (∀ y, y ≠ Str.ofString "frame" → y ≠ Str.ofString "q" → m' y = m y) → m' (Str.ofString "frame") = some (Value.ref (ad (rOf n x))) → m' (Str.ofString "q") = some (Value.int (qOf n x) tq) → Q .next { s with heap := h', toks := tk' }) :
    wpAny (model PySem.Challenge.pw_dw0016_01 w) (A.deeper (lawEnv L fa cd)) (exec (nth bdLoop 0) (lawEnv L fa cd)) Q E { s with heap := h, toks := tk } := by
  obtain ⟨cf, hfa⟩ := S.fa
  obtain ⟨cn, hnu⟩ := S.nu
  ((try dsimp only [Mine.lawEnv]); (conv in (occs := *) (Mine.stScope Mine.lawStmt) => all_goals whnf))
  conv in (nth bdLoop 0) => whnf
  have hne : ¬ ((n : Nat) : Int) = 0 := by omega
  have hrr : x.fmod (n : Int) = ((rOf n x : Nat) : Int) := by
    unfold rOf
    rw [Int.fmod_eq_emod_of_nonneg _ (by omega)]
    have := Int.emod_nonneg x (show (n : Int) ≠ 0 by omega)
    omega
  have hrl := rOf_lt hn0 x
  k_steps
  refine item_M N hnu (by omega) hx ?_
  k_steps
  refine len_M N hfa (by simp; omega) (j := n) (by simp) ?_
  k_steps
  rw [hrr]
  refine item_M N hfa (by omega) (v := Value.ref (ad (rOf n x))) (by simp [hrl]) ?_
  k_steps
  refine item_M N hnu (by omega) hx ?_
  k_steps
  refine len_M N hfa (by simp; omega) (j := n) (by simp) ?_
  k_steps
  rename Fr _ _ _ _ => F'
  rename News _ _ _ _ => N'
  rename ∀ q ∈ led, q.1 < _ => l1
  exact k _ _ _ _ _ _ F' N' l1 (fun y q1 q2 => by simp only [if_neg q1, if_neg q2]) rfl rfl
theorem bd_name (X : (hd1.heap_39 w.params).In h₀) (T : Top p loose mean mg mb h₀) (B : Below A base fr h₀) (hh : A.handled = none) (hroom : A.depth + 1 < recursionLimit) (hu : A.units + 60 < cLine)
    (F : Fr h₀ L h m) (N : News h₀ L h led) (hi : i < 100) {q : Int} {tq : Tok} (m3 : m (Str.ofString "k") = some (Value.int (i : Int) ti)) (m4 : m (Str.ofString "q") = some (Value.int q tq))
    (k : ∀ h' tk' m' D o tn tv, Fr h₀ L h' m' → News h₀ L h' ((D, o) :: led) → (∀ q ∈ led, q.1 < D) → (∀ y, y ≠ Str.ofString "name" → y ≠ Str.ofString "value" → m' y = m y) → m' (Str.ofString "name") = some (Value.str (nameOf q i) tn) → m' (Str.ofString "value") = some (Value.int ((q.fdiv 9).fmod 1000 - 500) tv) → Q .next { s with heap := h', toks := tk' }) :
    wpAny (model PySem.Challenge.pw_dw0016_01 w) (A.deeper (lawEnv L fa cd)) (exec (nth bdLoop 1) (lawEnv L fa cd)) Q E { s with heap := h, toks := tk } := by
  ((try dsimp only [Mine.lawEnv]); (conv in (occs := *) (Mine.stScope Mine.lawStmt) => all_goals whnf))
  conv in (nth bdLoop 1) => whnf
  have h3 := fmod3 q
  k_steps
  rename Fr _ _ _ _ => F'
  rename News _ _ _ _ => N'
  rename ∀ q ∈ led, q.1 < _ => l1
  exact k _ _ _ _ _ _ _ F' N' l1 (fun y q1 q2 => by simp only [if_neg q1, if_neg q2]) rfl rfl
theorem bd_num (X : (hd1.heap_39 w.params).In h₀) (T : Top p loose mean mg mb h₀) (B : Below A base fr h₀) (hh : A.handled = none) (hroom : A.depth + 1 < recursionLimit) (hu : A.units + 60 < cLine)
    (F : Fr h₀ L h m) (N : News h₀ L h led) {q : Int} {tq : Tok} (m4 : m (Str.ofString "q") = some (Value.int q tq)) (hs : isSub q = false)
    (k : ∀ h' tk', Fr h₀ L h' m → News h₀ L h' led → Q .next { s with heap := h', toks := tk' }) :
    wpAny (model PySem.Challenge.pw_dw0016_01 w) (A.deeper (lawEnv L fa cd)) (exec (nth bdLoop 2) (lawEnv L fa cd)) Q E { s with heap := h, toks := tk } := by
  have hs' : (q.fdiv 3).fmod 3 = 0 := by simpa [isSub] using hs
  ((try dsimp only [Mine.lawEnv]); (conv in (occs := *) (Mine.stScope Mine.lawStmt) => all_goals whnf))
  conv in (nth bdLoop 2) => whnf
  k_steps
  all_goals first | exact absurd hs' (by assumption) | exact k _ _ (by assumption) (by assumption)
theorem bd_sub (X : (hd1.heap_39 w.params).In h₀) (T : Top p loose mean mg mb h₀) (B : Below A base fr h₀) (hh : A.handled = none) (hroom : A.depth + 1 < recursionLimit) (hu : A.units + 60 < cLine)
    (F : Fr h₀ L h m) (N : News h₀ L h led) {q : Int} {tq : Tok} (m1 : m (Str.ofString "frames") = some (Value.ref FA)) (m4 : m (Str.ofString "q") = some (Value.int q tq)) (hs : isSub q = true) {fv : List Value} {cf : Nat} (hfa : (FA, W.listOf (List.toArray fv) cf) ∈ led) (hfv : fv.length ≤ 1000)
    (k : ∀ h' tk' m' a mn d o led', Fr h₀ L h' m' → News h₀ L h' led' → Turned ((a, W.listOf (List.toArray [Value.ref mn, Value.ref d]) 0) :: (d, o) :: (mn, W.listOf (List.toArray []) 0) :: led) led' FA (W.listOf (List.toArray (fv ++ [Value.ref a])) (cf + 1)) →
      o.IsDictOf (strKind PySem.Challenge.pw_dw0016_01 w) [] → (d == sysModules) = false → (∀ q ∈ led, q.1 < mn) → mn < d → d < a → (∀ y, y ≠ Str.ofString "value" → m' y = m y) → m' (Str.ofString "value") = some (Value.ref a) → Q .next { s with heap := h', toks := tk' }) :
    wpAny (model PySem.Challenge.pw_dw0016_01 w) (A.deeper (lawEnv L fa cd)) (exec (nth bdLoop 2) (lawEnv L fa cd)) Q E { s with heap := h, toks := tk } := by
  have hs' : ¬ (q.fdiv 3).fmod 3 = 0 := by simpa [isSub] using hs
  ((try dsimp only [Mine.lawEnv]); (conv in (occs := *) (Mine.stScope Mine.lawStmt) => all_goals whnf))
  conv in (nth bdLoop 2) => whnf
  k_steps
  · rename News _ _ _ _ => N'
    rename Fr _ _ _ _ => F'
    rename ∀ q ∈ led, q.1 < _ => l1
    rename _ < _ ∧ AllLt _ led => l2
    rename _ < _ ∧ _ < _ ∧ AllLt _ led => l3
    rename Obj.IsDictOf (PySem.strKind _ _) _ _ => hd'
    rename (_ == sysModules) = false => hsy
    refine method_M F.slot_list_append F.type_list_append N' (.tail _ (.tail _ (.tail _ hfa))) ?_
    k_steps
    rename Fr _ _ _ _ => F'
    refine append_M F' N' (.tail _ (.tail _ (.tail _ hfa))) (by omega) fun h₅ led₅ F₅ N₅ U₅ => ?_
    clear F' N'
    k_steps
    exact k _ _ _ _ _ _ _ _ F₅ N₅ U₅ hd' hsy l1 l2.1 l3.1 (fun y q1 => by simp only [if_neg q1]) rfl
  · exact absurd (by assumption) hs'
end
end Mine
end -- L1
section -- L2
open PySem PySem.W PyProof.Rows PySem.Calls PySem.Spec
set_option maxHeartbeats 8000000
namespace Mine
variable {w : World} {base : Heap} {p : Program} {loose : List Str} {mean : ExcName → Option Value} {mg mb : Str → Option Value}
local macro_rules | `(tactic| walk_at "subscriptTail Name Constant ref int") => `(tactic| refine Mine.Stop.mk ?_)
local macro_rules | `(tactic| walk_at "call builtin:list.append cons nil") => `(tactic| refine Mine.Stop.mk ?_)
local macro_rules | `(tactic| walk_at "nm val") => `(tactic| first | assumption | rfl | exact Mine.up_ne (by assumption) (by decide) | exact Mine.up_ne (Mine.up_ne (by assumption) (by decide)) (by decide))
local macro_rules | `(tactic| walk_at "eval Name") => `(tactic| (name_kind "local"; (rename Fr _ _ _ _ => F'); with_unfolding_all refine Mine.ldC F' (by walk_at "nm val") ?_))
section
variable {A : Around} {fr : List Env} {s : Shared} {h₀ h : Heap} {L fa : Addr} {cd : Value} {tk : Nat} {m : Str → Option Value} {led : List (Addr × Obj)} {E : Value → Shared → Prop} {Q : Flow → Shared → Prop}
  {a nm dd : Addr} {c cn : Nat} {vs : List Value} {x : Str} {t : Tok}
theorem bd_row (X : (hd1.heap_39 w.params).In h₀) (T : Top p loose mean mg mb h₀) (B : Below A base fr h₀) (hh : A.handled = none) (hroom : A.depth + 1 < recursionLimit) (hu : A.units + 60 < cLine)
    (F : Fr h₀ L h m) (N : News h₀ L h led) (hf : (a, W.listOf (List.toArray [Value.ref nm, Value.ref dd]) c) ∈ led) (hnm : (nm, W.listOf (List.toArray vs) cn) ∈ led) (hvs : vs.length ≤ 1000)
    (m1 : m (Str.ofString "frame") = some (Value.ref a)) (m2 : m (Str.ofString "name") = some (Value.str x t))
    (k : ∀ h' tk' led', Fr h₀ L h' m → News h₀ L h' led' → Turned led led' nm (W.listOf (List.toArray (vs ++ [Value.str x t])) (cn + 1)) → Q .next { s with heap := h', toks := tk' }) :
    wpAny (model PySem.Challenge.pw_dw0016_01 w) (A.deeper (lawEnv L fa cd)) (exec (nth bdLoop 3) (lawEnv L fa cd)) Q E { s with heap := h, toks := tk } := by
  ((try dsimp only [Mine.lawEnv]); (conv in (occs := *) (Mine.stScope Mine.lawStmt) => all_goals whnf))
  conv in (nth bdLoop 3) => whnf
  k_steps
  refine item_M (i := 0) N hf (by omega) rfl ?_
  k_steps
  rename Fr _ _ _ _ => F'
  rename News _ _ _ _ => N'
  refine append_M F' N' hnm (by omega) fun h₅ led₅ F₅ N₅ U₅ => ?_
  clear F' N'
  k_steps
  exact k _ _ _ F₅ N₅ U₅
theorem bd_lost (X : (hd1.heap_39 w.params).In h₀) (T : Top p loose mean mg mb h₀) (B : Below A base fr h₀) (hh : A.handled = none) (hroom : A.depth + 1 < recursionLimit) (hu : A.units + 60 < cLine)
    (F : Fr h₀ L h m) (N : News h₀ L h led) {q : Int} {tq : Tok} {LO : Addr} (m1 : m (Str.ofString "frame") = some (Value.ref a)) (m2 : m (Str.ofString "name") = some (Value.str x t)) (m3 : m (Str.ofString "lost") = some (Value.ref LO)) (m4 : m (Str.ofString "q") = some (Value.int q tq)) (hq : q.fmod 7 = 3)
    (hlo : (LO, W.listOf (List.toArray vs) cn) ∈ led) (hvs : vs.length ≤ 1000)
    (k : ∀ h' tk' D led', Fr h₀ L h' m → News h₀ L h' led' → Turned ((D, pairObj (Value.ref a) (Value.str x t) 0) :: led) led' LO (W.listOf (List.toArray (vs ++ [Value.ref D])) (cn + 1)) → (∀ q ∈ led, q.1 < D) → Q .next { s with heap := h', toks := tk' }) :
    wpAny (model PySem.Challenge.pw_dw0016_01 w) (A.deeper (lawEnv L fa cd)) (exec (nth bdLoop 5) (lawEnv L fa cd)) Q E { s with heap := h, toks := tk } := by
  ((try dsimp only [Mine.lawEnv]); (conv in (occs := *) (Mine.stScope Mine.lawStmt) => all_goals whnf))
  conv in (nth bdLoop 5) => whnf
  k_steps
  · rename Fr _ _ _ _ => F'
    rename News _ _ _ _ => N'
    rename ∀ q ∈ led, q.1 < _ => l1
    refine append_M F' N' (.tail _ hlo) (by omega) fun h₅ led₅ F₅ N₅ U₅ => ?_
    clear F' N'
    k_steps
    exact k _ _ _ _ F₅ N₅ U₅ l1
  all_goals exact absurd hq (by assumption)
theorem bd_kept (X : (hd1.heap_39 w.params).In h₀) (T : Top p loose mean mg mb h₀) (B : Below A base fr h₀) (hh : A.handled = none) (hroom : A.depth + 1 < recursionLimit) (hu : A.units + 60 < cLine)
    (F : Fr h₀ L h m) (N : News h₀ L h led) {q : Int} {tq : Tok} (m4 : m (Str.ofString "q") = some (Value.int q tq)) (hq : ¬ q.fmod 7 = 3)
    (k : ∀ h' tk', Fr h₀ L h' m → News h₀ L h' led → Q .next { s with heap := h', toks := tk' }) :
    wpAny (model PySem.Challenge.pw_dw0016_01 w) (A.deeper (lawEnv L fa cd)) (exec (nth bdLoop 5) (lawEnv L fa cd)) Q E { s with heap := h, toks := tk } := by
  ((try dsimp only [Mine.lawEnv]); (conv in (occs := *) (Mine.stScope Mine.lawStmt) => all_goals whnf))
  conv in (nth bdLoop 5) => whnf
  k_steps
  all_goals first | exact absurd (by assumption) hq | exact k _ _ (by assumption) (by assumption)
end
end Mine
end -- L2
section -- L3
open PySem PySem.W PyProof.Rows PySem.Calls PySem.Spec
set_option maxHeartbeats 8000000
namespace Mine
variable {w : World} {base : Heap} {p : Program} {loose : List Str} {mean : ExcName → Option Value} {mg mb : Str → Option Value}
local macro_rules | `(tactic| walk_at "nm val") => `(tactic| first | assumption | rfl | exact Mine.up_ne (by assumption) (by decide) | exact Mine.up_ne (Mine.up_ne (by assumption) (by decide)) (by decide))
local macro_rules | `(tactic| walk_at "eval Name") => `(tactic| (name_kind "local"; (rename Fr _ _ _ _ => F'); with_unfolding_all refine Mine.ldC F' (by walk_at "nm val") ?_))
local macro_rules | `(tactic| walk_at "call builtin:dict.items") => `(tactic| refine Mine.Stop.mk ?_)
local macro_rules | `(tactic| walk_at "call type:list") => `(tactic| refine Mine.Stop.mk ?_)
local macro_rules | `(tactic| walk_at "call type:dict") => `(tactic| refine Mine.Stop.mk ?_)
local macro_rules | `(tactic| walk_at "binaryOp Add ref ref") => `(tactic| refine Mine.Stop.mk ?_)
local macro_rules | `(tactic| walk_at "setItem ref int ref") => `(tactic| refine Mine.Stop.mk ?_)
local macro_rules | `(tactic| walk_at "subscriptTail Name Constant ref int") => `(tactic| refine Mine.Stop.mk ?_)
section
variable {A : Around} {fr : List Env} {s : Shared} {h₀ h : Heap} {L fa : Addr} {cd : Value} {tk : Nat} {m : Str → Option Value} {led : List (Addr × Obj)} {E : Value → Shared → Prop} {Q : Flow → Shared → Prop}
  {a nm dd : Addr} {c : Nat} {o : Obj} {kvs : List (Str × Value)} {x : Str} {t : Tok} {v : Value}
theorem garb_split {q1 q2 q3 q4 q5 : Addr × Obj} {tups led : List (Addr × Obj)} : q1 :: q2 :: (tups ++ q3 :: q4 :: q5 :: led) = (q1 :: q2 :: (tups ++ [q3, q4, q5])) ++ led := by simp
theorem bd_table (X : (hd1.heap_39 w.params).In h₀) (T : Top p loose mean mg mb h₀) (B : Below A base fr h₀) (hh : A.handled = none) (hroom : A.depth + 1 < recursionLimit) (hu : A.units + 60 < cLine)
    (F : Fr h₀ L h m) (N : News h₀ L h led) (hf : (a, W.listOf (List.toArray [Value.ref nm, Value.ref dd]) c) ∈ led) (hdd : (dd, o) ∈ led) (ho : o.IsDictOf (strKind PySem.Challenge.pw_dw0016_01 w) kvs) (hsys : (dd == sysModules) = false) (hz : kvs.length ≤ 1000) (hnew : x ∉ kvs.map (·.1))
    (m1 : m (Str.ofString "frame") = some (Value.ref a)) (m2 : m (Str.ofString "name") = some (Value.str x t)) (m3 : m (Str.ofString "value") = some v)
    (k : ∀ h' tk' d o' garb led', Fr h₀ L h' m → News h₀ L h' led' → o'.IsDictOf (strKind PySem.Challenge.pw_dw0016_01 w) ((x, v) :: kvs) → (d == sysModules) = false → (∀ q ∈ garb, ∀ r ∈ led, r.1 < q.1) → (∀ q ∈ led, q.1 < d) → (∀ q ∈ garb, q.1 < d) → Turned ((d, o') :: (garb ++ led)) led' a (W.listOf (List.toArray [Value.ref nm, Value.ref d]) c) → Q .next { s with heap := h', toks := tk' }) :
    wpAny (model PySem.Challenge.pw_dw0016_01 w) (A.deeper (lawEnv L fa cd)) (exec (nth bdLoop 4) (lawEnv L fa cd)) Q E { s with heap := h, toks := tk } := by
  ((try dsimp only [Mine.lawEnv]); (conv in (occs := *) (Mine.stScope Mine.lawStmt) => all_goals whnf))
  conv in (nth bdLoop 4) => whnf
  k_steps
  rename News _ _ _ _ => N'
  rename ∀ q ∈ led, q.1 < _ => lD
  rename _ < _ ∧ AllLt _ led => lL
  show wpAny _ _ _ _ _ _
  refine item_M (i := 1) N' (.tail _ (.tail _ hf)) (by omega) rfl ?_
  refine itemsMethod_M N' (.tail _ (.tail _ hdd)) ho ?_
  k_steps
  rename Fr _ _ _ _ => F'
  show wpAny _ _ _ _ _ _
  refine items_M F' N' (.tail _ (.tail _ hdd)) ho hsys fun vw h₂ F₂ N₂ l₂ => ?_
  clear F' N'
  k_steps
  show wpAny _ _ _ _ _ _
  refine listItems_M hh F₂ N₂ (.head _) (.tail _ (.tail _ (.tail _ hdd))) ho (by omega) fun Bl h₃ tk₃ its tups c₃ F₃ N₃ lB lT hP => ?_
  clear F₂ N₂
  k_steps
  show wpAny _ _ _ _ _ _
  have hl1 : h₃.IsList _ (List.toArray [Value.ref _]) := ⟨_, (N₃ _ (.tail _ (List.mem_append_right _ (.tail _ (.head _))))).1, rfl, _, rfl⟩
  have hl2 : h₃.IsList Bl (List.toArray its) := ⟨_, (N₃ _ (.head _)).1, rfl, _, rfl⟩
  rename Fr _ _ _ _ => F'
  have hc3 : ∀ r ∈ led, r.1 < h₃.objs.size := fun r hr => Heap.lt_size (N₃ r (.tail _ (List.mem_append_right _ (.tail _ (.tail _ (.tail _ hr)))))).1
  refine add_lists F' N₃ hl1 hl2 (fun h₄ F₄ N₄ => ?_) (by have := hP.1; have : sizeLine = 2 ^ 24 := rfl; simp; omega)
  clear F' hl1 hl2
  k_steps
  show wpAny _ _ _ _ _ _
  rename Fr _ _ _ _ => F'
  refine dictPairs_M (kvs := (x, v) :: kvs) hh F' N₄ T.nolimit (.head _) (PairsL.cons (hP.more fun q hq => .tail _ (.tail _ (List.mem_append_left _ hq))) (.tail _ (.tail _ (List.mem_append_right _ (.tail _ (.tail _ (.head _)))))) (strKind_is _ _ x t)) ?_ (by simp; omega) fun d h₅ tk₅ o₅ F₅ N₅ l₅ hd₅ hs₅ => ?_
  · obtain ⟨es, ep, _, _, _, _, hnd⟩ := ho
    exact List.nodup_cons.mpr ⟨hnew, hnd⟩
  clear F'
  k_steps
  show wpAny _ _ _ _ _ _
  rename Fr _ _ _ _ => F'
  rw [garb_split] at N₅ l₅
  refine set1_M F' N₅ (.tail _ (List.mem_append_right _ hf)) fun h₆ led₆ F₆ N₆ U₆ => ?_
  refine k _ _ _ _ _ _ F₆ N₆ hd₅ hs₅ ?_ (fun q hq => l₅ q (List.mem_append_right _ hq)) (fun q hq => l₅ q (List.mem_append_left _ hq)) U₆
  intro q hq r hr
  rcases List.mem_cons.mp hq with rfl | hq
  · exact hc3 r hr
  rcases List.mem_cons.mp hq with rfl | hq
  · exact lB r (.tail _ (.tail _ (.tail _ hr)))
  rcases List.mem_append.mp hq with hq | hq
  · exact Nat.lt_trans (lB r (.tail _ (.tail _ (.tail _ hr)))) (lT q hq)
  simp only [List.mem_cons, List.not_mem_nil, or_false] at hq
  rcases hq with rfl | rfl | rfl
  · exact l₂ r (.tail _ (.tail _ hr))
  · exact allLt_mem lL.2 r hr
  · exact lD r hr
end
end Mine
end -- L3
section -- L4
open PySem PySem.W PyProof.Rows PySem.Calls PySem.Spec
namespace Mine
variable {w : World} {base : Heap} {p : Program} {loose : List Str} {mean : ExcName → Option Value} {mg mb : Str → Option Value}
theorem ar_len (xs : List Int) : ∀ k i, ((psAt xs k).ar i).length ≤ k
  | 0, i => by simp [psAt]
  | k + 1, i => by
    have := ar_len xs k i
    simp only [psAt, stepP, addAr]
    split
    · simp; omega
    · omega
theorem pinv_fresh {S : PS} {k : Nat} {t : T} (I : PInv S k t) (hk : k < 150) (q : Int) (i : Nat) : nameOf q k ∉ (S.ar i).map (·.1) := fun h => by
  obtain ⟨q', k', h1, h2⟩ := I.nm _ (I.rp i _ h)
  have := nameOf_inj (by omega) (by omega) h2
  omega
theorem kvs_keys {ad : Nat → Addr} {kvs : List (Str × Value)} {r : Rows} (h : KvsAre ad kvs r) : kvs.map (·.1) = r.map (·.1) := by
  induction h with
  | nil => rfl
  | cons p _ ih => simp [p.1, ih]
section
variable {led led' : List (Addr × Obj)} {FA LO NU : Addr} {nv : List Value} {n : Nat} {nms nms' : Nat → List Str} {drows drows' : Nat → Rows} {lost : List (Nat × Str)} {ad nm dd : Nat → Addr} {tag : Addr → Nat}
theorem BSt.congr (B : BSt w led FA LO NU nv n nms drows lost ad nm dd tag) (h1 : ∀ j, j < n → nms' j = nms j) (h2 : ∀ j, j < n → drows' j = drows j) : BSt w led FA LO NU nv n nms' drows' lost ad nm dd tag := by
  obtain ⟨f1, f2, f4, f5, f6, f7, f8, f9, f10, f11⟩ := B
  exact ⟨f1, f2, f4, fun i hi => by rw [h1 i hi, h2 i hi]; exact f5 i hi, f6, f7, f8, f9, fun i hi y hy => f10 i hi y (by rw [← h2 i hi]; exact hy), f11⟩
end
/-- the state between two turns of the building loop -/
noncomputable def BdJ (w : World) (FA LO NU : Addr) (nv : List Value) (xs : List Int) (L : Addr) (co : Obj) (i : Nat) (m : Str → Option Value) (news : List (Addr × Obj)) : Prop :=
  m (Str.ofString "frames") = some (Value.ref FA) ∧ m (Str.ofString "lost") = some (Value.ref LO) ∧ m (Str.ofString "numbers") = some (Value.ref NU) ∧
  ∃ ad nm dd tag, BSt w news FA LO NU nv (psAt xs i).n (fun j => ((psAt xs i).ar j).map (·.1)) (fun j => ((psAt xs i).ar j).reverse) (psAt xs i).lost ad nm dd tag ∧
    (38, tabObj #[]) ∈ news ∧ (L + 1, co) ∈ news ∧ tag 38 = 0 ∧ tag (L + 1) = 0
/-- objects that stand as they were -/
structure Stands (led : List (Addr × Obj)) (tag : Addr → Nat) (I : Addr) (io : Obj) (L : Addr) (co : Obj) : Prop where
  i : (I, io) ∈ led
  ti : tag I = 4
  tab : (38, tabObj #[]) ∈ led
  cell : (L + 1, co) ∈ led
  t1 : tag 38 = 0
  t2 : tag (L + 1) = 0
theorem Stands.more {led led' : List (Addr × Obj)} {tag : Addr → Nat} {I : Addr} {io : Obj} {L : Addr} {co : Obj} (S : Stands led tag I io L co) (h : ∀ q ∈ led, tag q.1 = 0 ∨ tag q.1 = 4 → q ∈ led') : Stands led' tag I io L co :=
  ⟨h _ S.i (.inr S.ti), S.ti, h _ S.tab (.inl S.t1), h _ S.cell (.inl S.t2), S.t1, S.t2⟩
theorem Stands.retag {led : List (Addr × Obj)} {tag tag' : Addr → Nat} {I : Addr} {io : Obj} {L : Addr} {co : Obj} (S : Stands led tag I io L co) (h : ∀ q ∈ led, tag' q.1 = tag q.1) : Stands led tag' I io L co :=
  ⟨S.i, (h _ S.i).trans S.ti, S.tab, S.cell, (h _ S.tab).trans S.t1, (h _ S.cell).trans S.t2⟩
theorem Turned.stands {led led' : List (Addr × Obj)} {tag : Addr → Nat} {I : Addr} {io : Obj} {L D : Addr} {o' co : Obj} (S : Stands led tag I io L co) (T : Turned led led' D o') (hD : tag D ≠ 0 ∧ tag D ≠ 4) : Stands led' tag I io L co :=
  S.more fun q hq h => T.old q hq fun e => by rw [e] at h; omega
noncomputable def setTag (tag : Addr → Nat) (a : Addr) (t : Nat) : Addr → Nat := fun b => if b = a then t else tag b
theorem setTag_self (tag : Addr → Nat) (a : Addr) (t : Nat) : setTag tag a t a = t := if_pos rfl
theorem setTag_lt {tag : Addr → Nat} {a b : Addr} {t : Nat} (h : b < a) : setTag tag a t b = tag b := if_neg (Nat.ne_of_lt h)
theorem setTag_gt {tag : Addr → Nat} {a b : Addr} {t : Nat} (h : a < b) : setTag tag a t b = tag b := if_neg (Nat.ne_of_gt h)
section
variable {A : Around} {fr : List Env} {s : Shared} {h₀ : Heap} {L fa : Addr} {cd : Value} {E : Value → Shared → Prop} {Q : Flow → Shared → Prop} {FA LO NU : Addr} {nv : List Value} {xs : List Int} {co : Obj}
theorem bd_turn (X : (hd1.heap_39 w.params).In h₀) (Tp : Top p loose mean mg mb h₀) (B : Below A base fr h₀) (hh : A.handled = none) (hroom : A.depth + 1 < recursionLimit) (hu : A.units + 60 < cLine)
    (hnv : ∀ i, i < nv.length → ∃ t, nv[i]? = some (Value.int (xs.getD i 0) t)) (hlen : nv.length ≤ 99) :
    ∀ (i : Nat) (t : Tok) (m₁ : Str → Option Value) (news₁ : List (Addr × Obj)) (h : Heap) (tk : Nat) (I : Addr) (io : Obj), i < nv.length → BdJ w FA LO NU nv xs L co i m₁ news₁ → (∀ p ∈ news₁, p.1 ≠ I) → Fr h₀ L h (fun y => if y = Str.ofString "k" then some (.int (i : Int) t) else m₁ y) → News h₀ L h ((I, io) :: news₁) →
      wpAny (model PySem.Challenge.pw_dw0016_01 w) (A.deeper (lawEnv L fa cd)) (execs bdLoop (lawEnv L fa cd)) (TurnEnd h₀ L s Q I io (BdJ w FA LO NU nv xs L co (i + 1))) E { s with heap := h, toks := tk } := by
  rintro i ti m₁ news₁ h tk I io hi ⟨m1, m2, m3, ad, nm, dd, tag, hB, h38, hco, t38, tco⟩ hne F N
  obtain ⟨t, PI⟩ := pinv_at xs i (by omega)
  obtain ⟨tx, hx⟩ := hnv i hi
  generalize hxx : xs.getD i 0 = x at hx
  have hps : psAt xs (i + 1) = stepP (psAt xs i) i x := by rw [← hxx]; rfl
  have hal := ar_len xs i
  generalize hSS : psAt xs i = S at PI hB hps hal
  have hr := rOf_lt PI.n0 x
  have hfresh := pinv_fresh PI (by omega) (qOf S.n x)
  -- the iterator joins
  have S0 : Stands ((I, io) :: news₁) (setTag tag I 4) I io L co := ⟨.head _, setTag_self _ _ _, .tail _ h38, .tail _ hco, (if_neg (hne _ h38)).trans t38, (if_neg (hne _ hco)).trans tco⟩
  have B0 : BSt w ((I, io) :: news₁) FA LO NU nv S.n (fun j => (S.ar j).map (·.1)) (fun j => (S.ar j).reverse) S.lost ad nm dd (setTag tag I 4) := (hB.retag fun q hq => if_neg (hne q hq)).more fun q hq _ => .tail _ hq
  generalize hled : (I, io) :: news₁ = led at N S0 B0
  clear hled hB h38 hco hne
  generalize htag : setTag tag I 4 = tag₁ at S0 B0
  clear htag
  show wpAny _ _ (execs (nth bdLoop 0 :: [nth bdLoop 1, nth bdLoop 2, nth bdLoop 3, nth bdLoop 4, nth bdLoop 5]) _) _ _ _
  refine stop_cons ?_
  refine bd_pick (s := s) X Tp B hh hroom hu F N B0 PI.n0 (by have := PI.nk; omega) (by omega) hx (up_ne m1 (by decide)) (up_ne m3 (by decide)) rfl fun h₁ tk₁ m₂ D₁ o₁ tq F₁ N₁ l₁ e₁ f₁ g₁ => ?_
  show wpAny _ _ (execs (nth bdLoop 1 :: [nth bdLoop 2, nth bdLoop 3, nth bdLoop 4, nth bdLoop 5]) _) _ _ _
  refine stop_cons ?_
  refine bd_name (s := s) X Tp B hh hroom hu F₁ N₁ (i := i) (by omega) (by rw [e₁ _ (by decide) (by decide)]; rfl) g₁ fun h₂ tk₂ m₃ D₂ o₂ tn tv F₂ N₂ l₂ e₂ f₂ g₂ => ?_
  have B2 := B0.more (led' := (D₂, o₂) :: (D₁, o₁) :: led) fun q hq _ => .tail _ (.tail _ hq)
  have S2 := S0.more (led' := (D₂, o₂) :: (D₁, o₁) :: led) fun q hq _ => .tail _ (.tail _ hq)
  generalize (D₂, o₂) :: (D₁, o₁) :: led = led₂ at N₂ B2 S2
  have mm : ∀ y, y ≠ Str.ofString "name" → y ≠ Str.ofString "value" → y ≠ Str.ofString "frame" → y ≠ Str.ofString "q" → y ≠ Str.ofString "k" → m₃ y = m₁ y := fun y a b c d e => by
    rw [e₂ y a b, e₁ y c d]; exact if_neg e
  have n1 : m₃ (Str.ofString "frames") = some (Value.ref FA) := by rw [mm _ (by decide) (by decide) (by decide) (by decide) (by decide)]; exact m1
  have n2 : m₃ (Str.ofString "lost") = some (Value.ref LO) := by rw [mm _ (by decide) (by decide) (by decide) (by decide) (by decide)]; exact m2
  have n3 : m₃ (Str.ofString "numbers") = some (Value.ref NU) := by rw [mm _ (by decide) (by decide) (by decide) (by decide) (by decide)]; exact m3
  have n4 : m₃ (Str.ofString "frame") = some (Value.ref (ad (rOf S.n x))) := by rw [e₂ _ (by decide) (by decide)]; exact f₁
  have n5 : m₃ (Str.ofString "q") = some (Value.int (qOf S.n x) tq) := by rw [e₂ _ (by decide) (by decide)]; exact g₁
  clear e₁ e₂ mm m1 m2 m3 f₁ g₁ F F₁ N N₁ l₁ l₂ B0 S0
  show wpAny _ _ (execs (nth bdLoop 2 :: [nth bdLoop 3, nth bdLoop 4, nth bdLoop 5]) _) _ _ _
  refine stop_cons ?_
  -- behind the third statement
  have key : ∀ h₃ tk₃ m₄ led₃ (ad' nm' dd' : Nat → Addr) (tag' : Addr → Nat) (v : Value), Fr h₀ L h₃ m₄ → News h₀ L h₃ led₃ → Stands led₃ tag' I io L co →
      BSt w led₃ FA LO NU nv (stepP S i x).n (fun j => (S.ar j).map (·.1)) (fun j => (S.ar j).reverse) S.lost ad' nm' dd' tag' → ad' (rOf S.n x) = ad (rOf S.n x) → (∀ y, y ≠ Str.ofString "value" → m₄ y = m₃ y) → m₄ (Str.ofString "value") = some v → CellV ad' v (cellOf S.n (qOf S.n x)) → (∀ j, cellOf S.n (qOf S.n x) = .sub j → j < (stepP S i x).n) → rOf S.n x < (stepP S i x).n →
      wpAny (model PySem.Challenge.pw_dw0016_01 w) (A.deeper (lawEnv L fa cd)) (execs [nth bdLoop 3, nth bdLoop 4, nth bdLoop 5] (lawEnv L fa cd)) (TurnEnd h₀ L s Q I io (BdJ w FA LO NU nv xs L co (i + 1))) E { s with heap := h₃, toks := tk₃ } := by
    intro h₃ tk₃ m₄ led₃ ad' nm' dd' tag' v F₃ N₃ S₃ B₃ ea em ev hcv hkid hr'
    clear N₂ F₂ B2 S2
    generalize hrr : rOf S.n x = r at *
    generalize hqq : qOf S.n x = q at *
    obtain ⟨⟨cf, x1⟩, ⟨vs, cn, x2, x3⟩, ⟨o, kvs, x4, x5, x6⟩, x7⟩ := B₃.fr r hr'
    have hvl : vs.length ≤ 1000 := by rw [x3.1, List.length_map]; have := hal r; omega
    refine stop_cons ?_
    refine bd_row (s := s) X Tp B hh hroom hu F₃ N₃ x1 x2 hvl (by rw [em _ (by decide), n4, ea]) (by rw [em _ (by decide)]; exact f₂) fun h₄ tk₄ led₄ F₄ N₄ U₄ => ?_
    have B₄ := B₃.named hr' x2 x3 U₄
    have S₄ := U₄.stands S₃ (by have := (B₃.ta r hr').2.1; omega)
    have x1' := U₄.old _ x1 (fun e => by have := congrArg tag' e; have := B₃.ta r hr'; dsimp only at *; omega)
    have x4' := U₄.old _ x4 (fun e => by have := congrArg tag' e; have := B₃.ta r hr'; dsimp only at *; omega)
    show wpAny _ _ (execs (nth bdLoop 4 :: [nth bdLoop 5]) _) _ _ _
    refine stop_cons ?_
    have hkeys := kvs_keys x6
    refine bd_table (s := s) X Tp B hh hroom hu F₄ N₄ x1' x4' x5 x7 (by rw [x6.length, List.length_reverse]; have := hal r; omega) (x := nameOf q i) (t := tn) (v := v) (by rw [hkeys, List.map_reverse, List.mem_reverse]; exact hfresh r) (by rw [em _ (by decide), n4, ea]) (by rw [em _ (by decide)]; exact f₂) ev fun h₅ tk₅ d o' garb led₅ F₅ N₅ hd₅ hs₅ lg ld lgd U₅ => ?_
    have hall : ∀ z ∈ garb ++ led₄, z.1 < d := fun z hz => (List.mem_append.mp hz).elim (lgd z) (ld z)
    have B₅ := ((B₄.more (led' := garb ++ led₄) fun z hz _ => List.mem_append_right _ hz).retag (tag' := setTag tag' d (3 * r + 7)) fun z hz => setTag_lt (hall z hz)).more (led' := (d, o') :: (garb ++ led₄)) fun z hz _ => .tail _ hz
    have S₅ := ((S₄.more (led' := garb ++ led₄) fun z hz _ => List.mem_append_right _ hz).retag (tag' := setTag tag' d (3 * r + 7)) fun z hz => setTag_lt (hall z hz)).more (led' := (d, o') :: (garb ++ led₄)) fun z hz _ => .tail _ hz
    have B₆ := B₅.tabled hr' (c := cf) (dr := (nameOf q i, cellOf S.n q) :: (S.ar r).reverse) (.head _) hd₅ (.cons ⟨rfl, hcv⟩ x6) hs₅ (fun y hy j e => by
      rcases List.mem_cons.mp hy with rfl | hy
      · exact hkid j e
      · exact B₃.kids r hr' y hy j e) U₅ (setTag_self _ _ _)
    have S₆ := U₅.stands S₅ (by have := (B₅.ta r hr').1; omega)
    generalize setTag tag' d (3 * r + 7) = tag'' at B₆ S₆
    have ar' : ∀ j, (stepP S i x).ar j = if j = r then S.ar j ++ [(nameOf q i, cellOf S.n q)] else S.ar j := fun j => by simp only [stepP, hqq, hrr, addAr]
    have B₇ := B₆.congr (nms' := fun j => ((stepP S i x).ar j).map (·.1)) (drows' := fun j => ((stepP S i x).ar j).reverse) (fun j _ => by
        rw [ar' j]
        by_cases e : j = r
        · simp [e]
        · simp [e]) (fun j _ => by
        rw [ar' j]
        by_cases e : j = r
        · simp [e]
        · simp [e])
    show wpAny _ _ (execs (nth bdLoop 5 :: []) _) _ _ _
    refine stop_cons ?_
    have fin : ∀ h₈ tk₈ led₈ tag₈ (lst : List (Nat × Str)), lst = (stepP S i x).lost → Fr h₀ L h₈ m₄ → News h₀ L h₈ led₈ → BSt w led₈ FA LO NU nv (stepP S i x).n (fun j => ((stepP S i x).ar j).map (·.1)) (fun j => ((stepP S i x).ar j).reverse) lst ad' nm' (fun j => if j = r then d else dd' j) tag₈ → Stands led₈ tag₈ I io L co →
        TurnEnd h₀ L s Q I io (BdJ w FA LO NU nv xs L co (i + 1)) .next { s with heap := h₈, toks := tk₈ } := by
      intro h₈ tk₈ led₈ tag₈ lst hl F₈ N₈ B₈ S₈
      subst hl
      refine ⟨h₈, tk₈, m₄, led₈.filter (fun z => decide (z.1 ≠ I)), rfl, F₈, fun z hz => ?_, fun z hz => of_decide_eq_true (List.mem_filter.mp hz).2, ?_⟩
      · rcases List.mem_cons.mp hz with rfl | hz
        · exact N₈ _ S₈.i
        · exact N₈ _ (List.mem_filter.mp hz).1
      · have kp : ∀ z ∈ led₈, tag₈ z.1 ≠ 4 → z ∈ led₈.filter (fun z => decide (z.1 ≠ I)) := fun z hz ht => List.mem_filter.mpr ⟨hz, decide_eq_true fun e => ht (by rw [e]; exact S₈.ti)⟩
        refine ⟨by rw [em _ (by decide)]; exact n1, by rw [em _ (by decide)]; exact n2, by rw [em _ (by decide)]; exact n3, ad', nm', (fun j => if j = r then d else dd' j), tag₈, ?_, kp _ S₈.tab (by rw [S₈.t1]; decide), kp _ S₈.cell (by rw [S₈.t2]; decide), S₈.t1, S₈.t2⟩
        rw [hps]
        exact B₈.more kp
    have hlost : (stepP S i x).lost = if q.fmod 7 = 3 then S.lost ++ [(r, nameOf q i)] else S.lost := by simp only [stepP, hqq, hrr]
    by_cases hq : q.fmod 7 = 3
    · obtain ⟨lvs, cl, y1, y2⟩ := B₇.lo
      refine bd_lost (s := s) (a := ad' r) (x := nameOf q i) (t := tn) X Tp B hh hroom hu F₅ N₅ (by rw [em _ (by decide), n4, ea]) (by rw [em _ (by decide)]; exact f₂) (by rw [em _ (by decide)]; exact n2) (by rw [em _ (by decide)]; exact n5) hq y1 (by rw [y2.length]; have := PI.lk; omega) fun h₈ tk₈ D₈ led₈ F₈ N₈ U₈ l₈ => ?_
      have B₈ := (B₇.retag (tag' := setTag tag'' D₈ 0) fun z hz => setTag_lt (l₈ z hz)).more (led' := (D₈, pairObj (Value.ref (ad' r)) (Value.str (nameOf q i) tn) 0) :: led₅) fun z hz _ => .tail _ hz
      have S₈ := (S₆.retag (tag' := setTag tag'' D₈ 0) fun z hz => setTag_lt (l₈ z hz)).more (led' := (D₈, pairObj (Value.ref (ad' r)) (Value.str (nameOf q i) tn) 0) :: led₅) fun z hz _ => .tail _ hz
      have y2' : LostIn ((D₈, pairObj (Value.ref (ad' r)) (Value.str (nameOf q i) tn) 0) :: led₅) ad' (setTag tag'' D₈ 0) lvs S.lost := y2.mono fun v y ⟨T', t, u, e1, e2, e3⟩ => ⟨T', t, u, e1, .tail _ e2, (setTag_lt (l₈ _ e2)).trans e3⟩
      have B₉ := B₈.losing hr' (.tail _ y1) y2' (.head _) (setTag_self _ _ _) U₈
      have S₉ := U₈.stands S₈ (by have := B₈.tl; omega)
      exact wpAny_execs_nil (fin _ _ _ _ _ (by rw [hlost, if_pos hq]) F₈ N₈ B₉ S₉)
    · refine bd_kept (s := s) X Tp B hh hroom hu F₅ N₅ (by rw [em _ (by decide)]; exact n5) hq fun h₈ tk₈ F₈ N₈ => ?_
      exact wpAny_execs_nil (fin _ _ _ _ _ (by rw [hlost, if_neg hq]) F₈ N₈ B₇ S₆)
  cases hsub : isSub (qOf S.n x) with
  | false =>
    refine bd_num (s := s) X Tp B hh hroom hu F₂ N₂ n5 hsub fun h₃ tk₃ F₃ N₃ => ?_
    have hn' : (stepP S i x).n = S.n := by simp [stepP, hsub]
    refine key h₃ tk₃ m₃ led₂ ad nm dd tag₁ _ F₃ N₃ S2 (by rw [hn']; exact B2) rfl (fun _ _ => rfl) g₂ ?_ ?_ (by rw [hn']; exact hr)
    · simp only [cellOf, hsub]; exact ⟨_, rfl⟩
    · intro j e; simp [cellOf, hsub] at e
  | true =>
    obtain ⟨cf, hfa⟩ := B2.fa
    refine bd_sub (s := s) X Tp B hh hroom hu F₂ N₂ n1 n5 hsub hfa (by have := PI.nk; simp; omega) fun h₃ tk₃ m₄ a mn d o led₃ F₃ N₃ U₃ hd₃ hs₃ l₃ l₄ l₅ em ev => ?_
    have hn' : (stepP S i x).n = S.n + 1 := by simp [stepP, hsub]
    have l6 : ∀ z ∈ led₂, z.1 < d := fun z hz => Nat.lt_trans (l₃ z hz) l₄
    have l7 : ∀ z ∈ led₂, z.1 < a := fun z hz => Nat.lt_trans (l6 z hz) l₅
    have hmna : mn < a := Nat.lt_trans l₄ l₅
    generalize htt : setTag (setTag (setTag tag₁ mn (3 * S.n + 6)) d (3 * S.n + 7)) a (3 * S.n + 5) = tag₃
    have et : ∀ z ∈ led₂, tag₃ z.1 = tag₁ z.1 := fun z hz => by rw [← htt, setTag_lt (l7 z hz), setTag_lt (l6 z hz), setTag_lt (l₃ z hz)]
    have ta : tag₃ a = 3 * S.n + 5 := by rw [← htt]; exact setTag_self _ _ _
    have td : tag₃ d = 3 * S.n + 7 := by rw [← htt, setTag_lt l₅]; exact setTag_self _ _ _
    have tm : tag₃ mn = 3 * S.n + 6 := by rw [← htt, setTag_lt hmna, setTag_lt l₄]; exact setTag_self _ _ _
    have B3 := (B2.retag et).more (led' := (a, W.listOf (List.toArray [Value.ref mn, Value.ref d]) 0) :: (d, o) :: (mn, W.listOf (List.toArray []) 0) :: led₂) fun z hz _ => .tail _ (.tail _ (.tail _ hz))
    have S3 := (S2.retag et).more (led' := (a, W.listOf (List.toArray [Value.ref mn, Value.ref d]) 0) :: (d, o) :: (mn, W.listOf (List.toArray []) 0) :: led₂) fun z hz _ => .tail _ (.tail _ (.tail _ hz))
    have B4 := B3.frame (.tail _ (.tail _ (.tail _ hfa))) U₃ (.head _) (.tail _ (.tail _ (.head _))) (.tail _ (.head _)) hd₃ hs₃ ta tm td
    have S4 := U₃.stands S3 (by have := B3.tf; omega)
    have B5 := B4.congr (nms' := fun j => (S.ar j).map (·.1)) (drows' := fun j => (S.ar j).reverse) (fun j _ => by
        by_cases e : j = S.n
        · simp [e, PI.far S.n (Nat.le_refl _)]
        · simp [e]) (fun j _ => by
        by_cases e : j = S.n
        · simp [e, PI.far S.n (Nat.le_refl _)]
        · simp [e])
    refine key h₃ tk₃ m₄ led₃ _ _ _ tag₃ _ F₃ N₃ S4 (by rw [hn']; exact B5) (if_neg (Nat.ne_of_lt hr)) em ev ?_ ?_ (by rw [hn']; omega)
    · simp only [cellOf, hsub, if_true]; show Value.ref a = Value.ref (if S.n = S.n then a else ad S.n); rw [if_pos rfl]
    · intro j e
      simp only [cellOf, hsub, if_true, Cell.sub.injEq] at e
      rw [hn']; omega
end
end Mine
end -- L4
section -- L5
open PySem PySem.W PyProof.Rows PySem.Calls PySem.Spec
namespace Mine
variable {w : World} {base : Heap} {p : Program} {loose : List Str} {mean : ExcName → Option Value} {mg mb : Str → Option Value}
theorem lookup_rel {ad : Nat → Addr} {kvs : List (Str × Value)} {rows : Rows} (h : KvsAre ad kvs rows) (x : Str) : CellIs ad (valueAt kvs x) (rows.lookup x) := by
  induction h with
  | nil => exact trivial
  | @cons kv r kvs rows p _ ih =>
    obtain ⟨k, v⟩ := kv
    obtain ⟨y, c⟩ := r
    obtain ⟨p1, p2⟩ := p
    dsimp only at p1 p2
    subst p1
    by_cases e : k = x
    · subst e
      simp only [valueAt, List.find?_cons, decide_true, Option.map_some, List.lookup_cons, beq_self_eq_true]
      cases c with
      | num i => exact p2
      | sub j => exact p2
    · have e' : (x == k) = false := beq_eq_false_iff_ne.mpr (Ne.symm e)
      simp only [valueAt, List.find?_cons, e, decide_false, List.lookup_cons, e']
      exact ih
theorem lookup_none {rows : Rows} {x : Str} (h : x ∉ rows.map (·.1)) : rows.lookup x = none := by
  induction rows with
  | nil => rfl
  | cons r l ih =>
    obtain ⟨y, c⟩ := r
    simp only [List.map_cons, List.mem_cons, not_or] at h
    rw [List.lookup_cons, beq_eq_false_iff_ne.mpr h.1]
    exact ih h.2
theorem lookup_mem {rows : Rows} {x : Str} {c : Cell} (nd : (rows.map (·.1)).Nodup) (h : (x, c) ∈ rows) : rows.lookup x = some c := by
  induction rows with
  | nil => cases h
  | cons r l ih =>
    obtain ⟨y, c'⟩ := r
    obtain ⟨n1, n2⟩ := List.nodup_cons.mp nd
    rcases List.mem_cons.mp h with e | h
    · cases e; rw [List.lookup_cons]; simp
    · have hx : x ∈ l.map (·.1) := List.mem_map_of_mem (f := fun z : Str × Cell => z.1) h
      have : x ≠ y := fun e => n1 (e ▸ hx)
      rw [List.lookup_cons, beq_eq_false_iff_ne.mpr this]
      exact ih n2 h
theorem lookup_rev (gone : Str → Bool) {rows : Rows} (nd : (rows.map (·.1)).Nodup) (x : Str) : (rows.reverse.filter fun r => !gone r.1).lookup x = if gone x then none else rows.lookup x := by
  have nd2 : ((rows.reverse.filter fun r => !gone r.1).map (·.1)).Nodup := by
    have h1 : (rows.reverse.map (·.1)).Nodup := by rw [List.map_reverse]; exact (List.reverse_perm _).nodup_iff.mpr nd
    exact List.Nodup.sublist (List.Sublist.map _ List.filter_sublist) h1
  by_cases hm : x ∈ rows.map (·.1)
  · obtain ⟨⟨y, c⟩, hr, e⟩ := List.mem_map.mp hm
    dsimp only at e
    subst e
    cases g : gone y with
    | true =>
      simp only [if_true]
      apply lookup_none
      intro h
      obtain ⟨z, hz, e⟩ := List.mem_map.mp h
      have := (List.mem_filter.mp hz).2
      rw [e, g] at this
      cases this
    | false =>
      simp only [Bool.false_eq_true, if_false]
      rw [lookup_mem nd hr]
      exact lookup_mem nd2 (List.mem_filter.mpr ⟨List.mem_reverse.mpr hr, by simp [g]⟩)
  · rw [lookup_none hm]
    have : (rows.reverse.filter fun r => !gone r.1).lookup x = none := lookup_none fun h => by
      obtain ⟨z, hz, e⟩ := List.mem_map.mp h
      exact hm (List.mem_map.mpr ⟨z, List.mem_reverse.mp (List.mem_filter.mp hz).1, e⟩)
    rw [this]
    cases gone x <;> rfl
theorem arena_of {led : List (Addr × Obj)} {FA LO NU : Addr} {nv : List Value} {n : Nat} {nms : Nat → List Str} {drows : Nat → Rows} {lost : List (Nat × Str)} {ad nm dd : Nat → Addr} {tag : Addr → Nat} {ar : Nat → Rows} {gone : Str → Bool} {hp : Heap}
    (B : BSt w led FA LO NU nv n nms drows lost ad nm dd tag) (H : ∀ q ∈ led, 5 ≤ tag q.1 → hp.get? q.1 = some q.2) (hn : ∀ i, i < n → nms i = (ar i).map (·.1)) (hd : ∀ i, i < n → drows i = (ar i).reverse.filter fun r => !gone r.1) (nd : ∀ i, ((ar i).map (·.1)).Nodup) :
    Arena w ad gone n ar hp := by
  intro i hi
  obtain ⟨⟨c, f1⟩, ⟨vs, c', f2, f3⟩, ⟨o, kvs, f4, f5, f6⟩, f7⟩ := B.fr i hi
  obtain ⟨t1, t2, t3⟩ := B.ta i hi
  have e4 := H _ f4 (by dsimp only; omega)
  have hD : hp.DictOf (strKind PySem.Challenge.pw_dw0016_01 w) (dd i) kvs := Heap.dictOf_iff.mpr ⟨o, e4, f5⟩
  refine ⟨nm i, dd i, c, vs, valueAt kvs, H _ f1 (by dsimp only; omega), ⟨_, H _ f2 (by dsimp only; omega), rfl, _, rfl⟩, by rw [← hn i hi]; exact f3, f7, hD.mapOf, fun x => ?_⟩
  have := lookup_rel f6 x
  rw [hd i hi, lookup_rev gone (nd i)] at this
  exact this
/-! what is due can be laid -/
theorem strOk_mark {n k : Nat} {x : Str} (h : NameOk x) : PyData.strOk (starText (starsOf n k) ++ x) = true := by
  show (starText (starsOf n k) ++ x).cps.all (fun c => decide (c < 0x110000)) = true
  rw [← Array.all_toList, ls_append, List.all_eq_true]
  intro c hc
  rcases List.mem_append.mp hc with q | q
  · rw [star_chars _ c q]; rfl
  · obtain ⟨c₀, ds, e, hc₀, hd⟩ := h
    rw [e] at q
    rcases List.mem_cons.mp q with rfl | q
    · rcases hc₀ with rfl | rfl | rfl <;> rfl
    · have := hd c q
      simp only [isDig, decide_eq_true_eq] at this ⊢
      omega
theorem due_lay : ∀ (t : T) (n k : Nat), (∀ x ∈ t.pre, NameOk x) → PyData.canLayAll0 (t.due n k) = true ∧ PyData.depthAll (t.due n k) ≤ 2 * t.size
  | .nil, _, _, _ => ⟨rfl, Nat.le_refl _⟩
  | .num x i r, n, k, h => by
    obtain ⟨h1, h2⟩ := due_lay r n (k + 1) fun y hy => h y (.tail _ hy)
    have hs := strOk_mark (n := n) (k := k) (h x (.head _))
    constructor
    · simp only [T.due, PyData.canLayAll0, PyData.canLay0, hs, h1, Bool.and_self]
    · simp only [T.due, PyData.depthAll, PyData.depth, T.size]; omega
  | .sub x j s r, n, k, h => by
    obtain ⟨h1, h2⟩ := due_lay r n (k + 1) fun y hy => h y (.tail _ (List.mem_append_right _ hy))
    obtain ⟨h3, h4⟩ := due_lay s s.len 0 fun y hy => h y (.tail _ (List.mem_append_left _ hy))
    have hs := strOk_mark (n := n) (k := k) (h x (.head _))
    constructor
    · simp only [T.due, PyData.canLayAll0, PyData.canLay0, hs, h1, h3, Bool.and_self]
    · simp only [T.due, PyData.depthAll, PyData.depth, T.size]; omega
theorem pinv_ok {S : PS} {k : Nat} {t : T} (I : PInv S k t) (hk : k ≤ 150) : ∀ x ∈ t.pre, NameOk x := fun x hx => by
  obtain ⟨q, k', h1, rfl⟩ := I.nm x hx
  exact nameOf_ok q (by omega)
end Mine
end -- L5
section -- L6
open PySem PySem.W PyProof.Rows PySem.Calls PySem.Spec
set_option maxHeartbeats 8000000
namespace Mine
variable {w : World} {base : Heap} {p : Program} {loose : List Str} {mean : ExcName → Option Value} {mg mb : Str → Option Value}
local macro_rules | `(tactic| walk_at "pyIter ref") => `(tactic| refine Mine.Stop.mk ?_)
local macro_rules | `(tactic| walk_at "unpackItems ref") => `(tactic| (k_here; (refine unpackItemsN_ (by k_asm) (by k_asm) (by kun_tup) (by assumption) (by rfl) ?_); intro h' F' N'; (try k_sweep)))
local macro_rules | `(tactic| walk_at "nm val") => `(tactic| first | assumption | rfl | exact Mine.up_ne (by assumption) (by decide) | exact Mine.up_ne (Mine.up_ne (by assumption) (by decide)) (by decide))
local macro_rules | `(tactic| walk_at "eval Name") => `(tactic| (name_kind "local"; (rename Fr _ _ _ _ => F'); with_unfolding_all refine Mine.ldC F' (by walk_at "nm val") ?_))
section
variable {A : Around} {fr : List Env} {s : Shared} {h : Heap} {L fa : Addr} {cd : Value} {tk : Nat} {m : Str → Option Value} {E : Value → Shared → Prop} {Q : Flow → Shared → Prop} {co : Obj} {sc : Addr} {vs : List Value} {ns : List Int}
theorem bst_start {news : List (Addr × Obj)} {l4 d l3 FA LO NU : Addr} {o : Obj} {ws : List Value} {xs : List Int} {hp : Heap} (_N : News base L hp news) (o1 : L + 1 < l4) (o2 : 38 < l4) (o3 : l4 < d) (o4 : d < l3) (o5 : l3 < FA) (o6 : FA < LO) (o7 : LO < NU)
    (e1 : (FA, W.listOf (List.toArray [Value.ref l3]) 0) ∈ news) (e2 : (LO, W.listOf (List.toArray []) 0) ∈ news) (e3 : (NU, W.listOf (List.toArray ws) 0) ∈ news) (e4 : (l3, W.listOf (List.toArray [Value.ref l4, Value.ref d]) 0) ∈ news) (e5 : (d, o) ∈ news) (e6 : (l4, W.listOf (List.toArray []) 0) ∈ news)
    (e7 : (L + 1, co) ∈ news) (e8 : (38, tabObj #[]) ∈ news) (ho : o.IsDictOf (strKind PySem.Challenge.pw_dw0016_01 w) []) (hs : (d == sysModules) = false)
    (m1 : m (Str.ofString "frames") = some (Value.ref FA)) (m2 : m (Str.ofString "lost") = some (Value.ref LO)) (m3 : m (Str.ofString "numbers") = some (Value.ref NU)) : BdJ w FA LO NU ws xs L co 0 m news := by
  generalize htt : setTag (setTag (setTag (setTag (setTag (setTag (fun _ => 0) l4 6) d 7) l3 5) FA 1) LO 2) NU 3 = tag
  have p1 := Nat.lt_trans o6 o7
  have p2 := Nat.lt_trans o5 p1
  have p3 := Nat.lt_trans o4 p2
  have p4 := Nat.lt_trans o3 p3
  have q2 := Nat.lt_trans o5 o6
  have q3 := Nat.lt_trans o4 q2
  have q4 := Nat.lt_trans o3 q3
  have r3 := Nat.lt_trans o4 o5
  have r4 := Nat.lt_trans o3 r3
  have s4 := Nat.lt_trans o3 o4
  have t1 : tag FA = 1 := by rw [← htt, setTag_lt p1, setTag_lt o6]; exact setTag_self _ _ _
  have t2 : tag LO = 2 := by rw [← htt, setTag_lt o7]; exact setTag_self _ _ _
  have t3 : tag NU = 3 := by rw [← htt]; exact setTag_self _ _ _
  have t5 : tag l3 = 5 := by rw [← htt, setTag_lt p2, setTag_lt q2, setTag_lt o5]; exact setTag_self _ _ _
  have t7 : tag d = 7 := by rw [← htt, setTag_lt p3, setTag_lt q3, setTag_lt r3, setTag_lt o4]; exact setTag_self _ _ _
  have t6 : tag l4 = 6 := by rw [← htt, setTag_lt p4, setTag_lt q4, setTag_lt r4, setTag_lt s4, setTag_lt o3]; exact setTag_self _ _ _
  have low : ∀ b, b < l4 → tag b = 0 := fun b hb => by
    rw [← htt, setTag_lt (Nat.lt_trans hb p4), setTag_lt (Nat.lt_trans hb q4), setTag_lt (Nat.lt_trans hb r4), setTag_lt (Nat.lt_trans hb s4), setTag_lt (Nat.lt_trans hb o3), setTag_lt hb]
  refine ⟨m1, m2, m3, fun _ => l3, fun _ => l4, fun _ => d, tag, ⟨⟨0, e1⟩, ⟨[], 0, e2, .nil⟩, ⟨0, e3⟩, fun i hi => ?_, t1, t2, t3, fun i hi => ?_, fun i hi y hy => ?_, fun y hy => ?_⟩, e8, e7, low _ o2, low _ o1⟩
  · exact ⟨⟨0, e4⟩, ⟨[], 0, e6, StrsAre.nil⟩, ⟨o, [], e5, ho, .nil⟩, hs⟩
  · have : i = 0 := Nat.lt_one_iff.mp hi
    subst this
    exact ⟨t5, t6, t7⟩
  · simp [psAt] at hy
  · simp [psAt] at hy
theorem ints_at {vs : List Value} {ns : List Int} (h : IntsAre vs ns) : vs.length = ns.length ∧ ∀ i, i < vs.length → ∃ t, vs[i]? = some (Value.int (ns.getD i 0) t) := by
  induction h with
  | nil => exact ⟨rfl, fun i hi => absurd hi (Nat.not_lt_zero _)⟩
  | cons n t h ih =>
    refine ⟨by simp [ih.1], fun i hi => ?_⟩
    cases i with
    | zero => exact ⟨t, rfl⟩
    | succ i => simpa using ih.2 i (by simpa using hi)
theorem lw_build (bs : Base1 w base p loose mean mg mb) (B : Below A base fr base) (hh : A.handled = none) (hroom : A.depth + 1 < recursionLimit) (hu : A.units + 60 < cLine) (hE : PassesOwn (model PySem.Challenge.pw_dw0016_01 w) (A.deeper (lawEnv L fa cd)) (lawEnv L fa cd) E)
    (F : Fr base L h m) (N : News base L h [(L + 1, co), (38, tabObj #[])]) (h38 : 38 < L) (hsc : m (Str.ofString "script") = some (Value.ref sc)) (hl : base.IsList sc (List.toArray vs)) (hI : IntsAre vs ns) (hn : ns.length ≤ 63)
    (k : ∀ h' tk' m' news' FA LO NU nv, Fr base L h' m' → News base L h' news' → BdJ w FA LO NU nv ([4, 1] ++ ns.take 63) L co nv.length m' news' → nv.length = ns.length + 2 → wpAny (model PySem.Challenge.pw_dw0016_01 w) (A.deeper (lawEnv L fa cd)) (execs (lawBody.drop 2) (lawEnv L fa cd)) Q E { s with heap := h', toks := tk' }) :
    wpAny (model PySem.Challenge.pw_dw0016_01 w) (A.deeper (lawEnv L fa cd)) (execs lawBody (lawEnv L fa cd)) Q E { s with heap := h, toks := tk } := by
  have X := bs.K
  have T := bs.T
  show wpAny _ _ (execs (nth lawBody 0 :: nth lawBody 1 :: lawBody.drop 2) _) _ _ _
  refine stop_cons ?_
  ((try dsimp only [Mine.lawEnv]); (conv in (occs := *) (Mine.stScope Mine.lawStmt) => all_goals whnf))
  conv in (nth lawBody 0) => whnf
  k_steps
  rename_i l4 _ l18 d _ o lo hs _ _ _ l17 l3 _ l16 l2 _ l15 lL _ l14 l0 _ l13 D2 ws1 _ hI1 hC hL l12 D1 ws _ hI2 l11 D0 _ l10 _ _ _ _ F' N'
  obtain ⟨hwl, hws⟩ := ints_at hI2
  have hwl2 : ws.length = ns.length + 2 := by rw [hwl]; simp; omega
  have J0 : BdJ w l2 lL D1 ws ([4, 1] ++ ns.take 63) L co 0 _ _ := bst_start (m := fun y => if y = Str.ofString "frames" then some (Value.ref l2) else if y = Str.ofString "lost" then some (Value.ref lL) else if y = Str.ofString "numbers" then some (Value.ref D1) else m y) N' l18.1 l18.2 l17.1 l16.1 l15.1 l14.1 l11.2.2.1
    (.tail _ (.tail _ (.tail _ (.tail _ (.tail _ (.head _)))))) (.tail _ (.tail _ (.tail _ (.tail _ (.head _))))) (.tail _ (.head _)) (.tail _ (.tail _ (.tail _ (.tail _ (.tail _ (.tail _ (.head _))))))) (.tail _ (.tail _ (.tail _ (.tail _ (.tail _ (.tail _ (.tail _ (.head _)))))))) (.tail _ (.tail _ (.tail _ (.tail _ (.tail _ (.tail _ (.tail _ (.tail _ (.head _)))))))))
    (.tail _ (.tail _ (.tail _ (.tail _ (.tail _ (.tail _ (.tail _ (.tail _ (.tail _ (.head _)))))))))) (.tail _ (.tail _ (.tail _ (.tail _ (.tail _ (.tail _ (.tail _ (.tail _ (.tail _ (.tail _ (.head _))))))))))) hs lo rfl rfl rfl
  show wpAny _ _ (execs (nth lawBody 1 :: lawBody.drop 2) _) _ _ _
  refine stop_cons ?_
  conv in (nth lawBody 1) => whnf
  refine For_invV base rfl rfl ?_
  k_steps
  show wpAny _ _ (pyIter _) _ _ _
  rename News _ _ _ _ => N'
  rename Fr _ _ _ _ => F'
  rename IsRange _ _ _ _ _ _ _ _ => hr
  refine range_loop (n := ws.length) (BdJ w l2 lL D1 ws ([4, 1] ++ ns.take 63) L co) hh (by rw [show ws.length = 1 + 1 + (ns.take 63).length by rw [hwl]; simp; omega]; exact hr) (by omega) F' N' J0 ?_ ?_
  · exact bd_turn X T B hh hroom hu hws (by omega)
  · intro m₁ news₁ h₁ tk₁ hJ F₁ N₁
    exact k _ _ _ _ _ _ _ _ F₁ N₁ hJ hwl2
end
end Mine
end -- L6
section -- L7
open PySem PySem.W PyProof.Rows PySem.Calls PySem.Spec
set_option maxHeartbeats 8000000
namespace Mine
local macro_rules | `(tactic| walk_at "no key of any") => `(tactic| skip)
variable {w : World} {base : Heap} {p : Program} {loose : List Str} {mean : ExcName → Option Value} {mg mb : Str → Option Value}
local macro_rules | `(tactic| walk_at "subscriptTail Name Constant ref int") => `(tactic| refine Mine.Stop.mk ?_)
local macro_rules | `(tactic| walk_at "call ref") => `(tactic| ((with_reducible show wpAny _ _ (call (Value.ref _) _ _) _ _ _); refine Mine.Stop.mk ?_))
local macro_rules | `(tactic| walk_at "nm val") => `(tactic| first | assumption | rfl | exact Mine.up_ne (by assumption) (by decide) | exact Mine.up_ne (Mine.up_ne (by assumption) (by decide)) (by decide))
local macro_rules | `(tactic| walk_at "eval Name") => `(tactic| (name_kind "local"; (rename Fr _ _ _ _ => F'); with_unfolding_all refine Mine.ldC F' (by walk_at "nm val") ?_))
theorem fr_but {h₀ h h' : Heap} {L : Addr} {m : Str → Option Value} {S : List Addr} (F : Fr h₀ L h m) (k : KeepBut S h h') (hS : ∀ b ∈ S, h₀.get? b = none ∧ b ≠ L) : Fr h₀ L h' m :=
  ⟨F.ns.at' fun o e => k _ o (fun hm => (hS _ hm).2 rfl) e, fun b o e => k b o (fun hm => by rw [(hS b hm).1] at e; cases e) (F.keep b o e), F.above⟩
theorem hit_own {h₀ h : Heap} {L : Addr} {m : Str → Option Value} (F : Fr h₀ L h m) (H : Hit h) (h38 : h₀.get? 38 = none) (hL : 38 ≠ L) : ∃ own, News h₀ L h own ∧ (∀ q ∈ own, ∃ vs, q.2.data = .fields vs) ∧ ∀ h', h₀.StaysIn h' → HoldsAll own h' → Hit h' := by
  obtain ⟨c', a1, c, oc, vs, t, e, b1, b2, b3⟩ := H
  cases e
  have hcL : c' ≠ L := fun e => by
    obtain ⟨oL, es, ep, hoL, hd, _⟩ := F.ns
    rw [e, hoL] at b1; cases b1; rw [hd] at b2; cases b2
  cases q : h₀.get? c' with
  | some o' =>
    have e := F.keep _ _ q
    rw [b1] at e
    cases e
    refine ⟨[(38, tabObj #[rawInt 7, rawInt 4, .ref c'])], fun z hz => ?_, fun z hz => by rw [List.mem_singleton.mp hz]; exact ⟨_, rfl⟩, fun h' st hh => ?_⟩
    · rw [List.mem_singleton.mp hz]; exact ⟨a1, hL, h38⟩
    · exact ⟨c', hh _ (.head _), c', oc, vs, t, rfl, st _ _ q, b2, b3⟩
  | none =>
    refine ⟨[(38, tabObj #[rawInt 7, rawInt 4, .ref c']), (c', oc)], fun z hz => ?_, fun z hz => ?_, fun h' st hh => ?_⟩
    · rcases List.mem_cons.mp hz with rfl | hz
      · exact ⟨a1, hL, h38⟩
      · rw [List.mem_singleton.mp hz]; exact ⟨b1, hcL, q⟩
    · rcases List.mem_cons.mp hz with rfl | hz
      · exact ⟨_, rfl⟩
      · rw [List.mem_singleton.mp hz]; exact ⟨_, b2⟩
    · exact ⟨c', hh _ (.head _), c', oc, vs, t, rfl, hh _ (.tail _ (.head _)), b2, b3⟩
section
variable {led led' : List (Addr × Obj)} {FA LO NU : Addr} {nv : List Value} {n : Nat} {nms : Nat → List Str} {drows : Nat → Rows} {lost : List (Nat × Str)} {ad nm dd : Nat → Addr} {tag : Addr → Nat}
theorem BSt.more2 (B : BSt w led FA LO NU nv n nms drows lost ad nm dd tag) (h : ∀ q ∈ led, (1 ≤ tag q.1 ∧ tag q.1 ≠ 4) ∨ (∃ a b u, q.2 = pairObj a b u) → q ∈ led') : BSt w led' FA LO NU nv n nms drows lost ad nm dd tag := by
  obtain ⟨⟨c1, f1⟩, ⟨vs, c2, f2, f3⟩, ⟨c3, f4⟩, f5, f6, f7, f8, f9, f10, f11⟩ := B
  refine ⟨⟨c1, h _ f1 (.inl (by dsimp only; omega))⟩, ⟨vs, c2, h _ f2 (.inl (by dsimp only; omega)), ?_⟩, ⟨c3, h _ f4 (.inl (by dsimp only; omega))⟩, fun i hi => (f5 i hi).more fun q hq e => h q hq (.inl ?_), f6, f7, f8, f9, f10, f11⟩
  · exact f3.mono fun v y ⟨T, t, u, e1, e2, e3⟩ => ⟨T, t, u, e1, h _ e2 (.inr ⟨_, _, _, rfl⟩), e3⟩
  · obtain ⟨a1, a2, a3⟩ := f9 i hi
    rcases e with e | e | e <;> rw [e] <;> omega
end
section
variable {A : Around} {fr : List Env} {s : Shared} {h : Heap} {L fa : Addr} {cd : Value} {tk : Nat} {m : Str → Option Value} {E : Value → Shared → Prop} {Q : Flow → Shared → Prop} {co : Obj} {news : List (Addr × Obj)} {FA LO NU : Addr} {nv : List Value} {xs : List Int} {K : Nat} {t : T}
  {ad nm dd : Nat → Addr} {tag : Addr → Nat}
theorem lw_told (bs : Base1 w base p loose mean mg mb) (B : Below A base fr base) (hh : A.handled = none) (hroom : A.depth + 500 < recursionLimit) (hu : A.units + 5000 < cLine) (hfr : 38 ∉ frs fr)
    (F : Fr base L h m) (N : News base L h news) (h38 : 38 < L) (hco : co.data = .cell none) (hcm : (L + 1, co) ∈ news) (htab : (38, tabObj #[]) ∈ news) (m1 : m (Str.ofString "frames") = some (Value.ref FA))
    (hK : K ≤ 65) (PI : PInv (psAt xs K) K t) (S : BSt w news FA LO NU nv (psAt xs K).n (fun j => ((psAt xs K).ar j).map (·.1)) (fun j => ((psAt xs K).ar j).reverse) (psAt xs K).lost ad nm dd tag) (t38 : tag 38 = 0) (tco : tag (L + 1) = 0)
    (k : ∀ h' tk' co' own rest tt, Fr base L h' m → News base L h' ((L + 1, co') :: (own ++ rest)) → co'.data = .cell (some (Value.str t.text tt)) → (∀ h'', base.StaysIn h'' → HoldsAll own h'' → Hit h'') → (∀ q ∈ own, ∃ vs, q.2.data = .fields vs) →
      BSt w rest FA LO NU nv (psAt xs K).n (fun j => ((psAt xs K).ar j).map (·.1)) (fun j => ((psAt xs K).ar j).reverse) (psAt xs K).lost ad nm dd tag → Q .next { s with heap := h', toks := tk' }) :
    wpAny (model PySem.Challenge.pw_dw0016_01 w) (A.deeper (lawEnv L fa cd)) (exec (nth lawBody 2) (lawEnv L fa cd)) Q E { s with heap := h, toks := tk } := by
  have X := bs.K
  have T := bs.T
  obtain ⟨cf, hfa⟩ := S.fa
  have n0 := PI.n0
  ((try dsimp only [Mine.lawEnv]); (conv in (occs := *) (Mine.stScope Mine.lawStmt) => all_goals whnf))
  conv in (nth lawBody 2) => whnf
  k_steps
  refine item_M (i := 0) (v := Value.ref (ad 0)) N hfa (by omega) (by simp [n0]) ?_
  k_steps
  show wpAny _ _ (call _ _ _) _ _ _
  rename Fr _ _ _ _ => F'
  have hpk : ∀ q ∈ news, 5 ≤ tag q.1 → (hideAll h [38]).get? q.1 = some q.2 := fun q hq ht => hideAll_get _ (N q hq).1 (fun hm => by rw [List.mem_singleton.mp hm, t38] at ht; omega)
  have AR := arena_of (gone := fun _ => false) (ar := (psAt xs K).ar) S hpk (fun _ _ => rfl) (fun i _ => by simp [List.filter_eq_self.mpr]) PI.rn
  have hLn : (38 : Addr) ≠ L := Nat.ne_of_lt h38
  refine use_calls (toldT bs (m := K) t 0 [38] (Nat.le_of_eq PI.size) (by rw [PI.size]; omega) n0 PI.sp PI.ok PI.nn (fun j hj => (PI.ids j).mp (.tail _ hj)) (.inr rfl)) B F' rfl rfl ?_ ⟨AR, .inr ⟨rfl, (N _ htab).1⟩⟩ hh (by omega) (by omega) ?_ ?_
  · intro b hb hm
    rw [List.mem_singleton.mp hb] at hm
    rcases List.mem_cons.mp hm with e | hm
    · exact hLn e
    · exact hfr hm
  · rintro v h₁ tk₁ k₁ ⟨hit, tt, _, rfl⟩
    have F₁ := fr_but F' k₁ (fun b hb => by rw [List.mem_singleton.mp hb]; exact ⟨bs.none38, hLn⟩)
    obtain ⟨own, No, hof, ho⟩ := hit_own F₁ hit bs.none38 hLn
    have N₁ : News base L h₁ ((L + 1, co) :: (own ++ news.filter fun q => decide (q.1 ≠ 38 ∧ q.1 ≠ L + 1))) := fun q hq => by
      rcases List.mem_cons.mp hq with rfl | hq
      · exact ⟨k₁ _ _ (fun hm => absurd (List.mem_singleton.mp hm) (Nat.ne_of_gt (Nat.lt_succ_of_lt h38))) (N _ hcm).1, (N _ hcm).2⟩
      · rcases List.mem_append.mp hq with hq | hq
        · exact No q hq
        · obtain ⟨q1, q2⟩ := List.mem_filter.mp hq
          exact ⟨k₁ _ _ (fun hm => (of_decide_eq_true q2).1 (List.mem_singleton.mp hm)) (N q q1).1, (N q q1).2⟩
    have S₁ : BSt w (news.filter fun q => decide (q.1 ≠ 38 ∧ q.1 ≠ L + 1)) FA LO NU nv (psAt xs K).n (fun j => ((psAt xs K).ar j).map (·.1)) (fun j => ((psAt xs K).ar j).reverse) (psAt xs K).lost ad nm dd tag := S.more2 fun q hq hc => List.mem_filter.mpr ⟨hq, decide_eq_true ?_⟩
    · have hrl : ∀ p ∈ news.filter (fun q => decide (q.1 ≠ 38 ∧ q.1 ≠ L + 1)), p.1 ≠ L + 1 := fun p hp => (of_decide_eq_true (List.mem_filter.mp hp).2).2
      generalize (news.filter fun q => decide (q.1 ≠ 38 ∧ q.1 ≠ L + 1)) = rest at N₁ S₁ hrl
      refine stCN (own := []) F₁ N₁ rfl hco (fun p hp => nomatch hp) (fun p hp => ?_) fun h₂ o₂ F₂ N₂ hd₂ => k _ _ _ _ _ _ F₂ N₂ hd₂ ho hof S₁
      rcases List.mem_append.mp hp with hp | hp
      · obtain ⟨vs, hv⟩ := hof p hp
        exact news_ne N₁ (.tail _ (List.mem_append_left _ hp)) (.head _) (fun e => by rw [e] at hv; dsimp only at hv; rw [hco] at hv; cases hv)
      · exact hrl p hp
    · rcases hc with ⟨c1, c2⟩ | ⟨a, b, u, e⟩
      · exact ⟨fun e => by rw [e, t38] at c1; omega, fun e => by rw [e, tco] at c1; omega⟩
      · exact ⟨news_ne N hq htab (by rw [e]; intro e'; cases e'), news_ne N hq hcm (by rw [e]; intro e'; dsimp only at e'; rw [← e'] at hco; cases hco)⟩
  · intro x e h₁ tk₁ U
    obtain ⟨_, _, _, _, hE, _⟩ := U
    exfalso
    have h1 := hE.2
    rw [miss_find] at h1
    have : ∀ l : List Str, l.find? (fun _ => false) = none := fun l => by induction l <;> simp_all
    rw [this] at h1
    cases h1
end
end Mine
end -- L7
section -- L8
open PySem PySem.W PyProof.Rows PySem.Calls PySem.Spec
set_option maxHeartbeats 8000000
namespace Mine
variable {w : World} {base : Heap} {p : Program} {loose : List Str} {mean : ExcName → Option Value} {mg mb : Str → Option Value}
local macro_rules | `(tactic| walk_at "call ref") => `(tactic| ((with_reducible show wpAny _ _ (call (Value.ref _) _ _) _ _ _); refine Mine.Stop.mk ?_))
local macro_rules | `(tactic| walk_at "nm val") => `(tactic| first | assumption | rfl | exact Mine.up_ne (by assumption) (by decide) | exact Mine.up_ne (Mine.up_ne (by assumption) (by decide)) (by decide))
local macro_rules | `(tactic| walk_at "eval Name") => `(tactic| (name_kind "local"; (rename Fr _ _ _ _ => F'); with_unfolding_all refine Mine.ldC F' (by walk_at "nm val") ?_))
local macro_rules | `(tactic| walk_at "subscriptTail Name Constant ref int") => `(tactic| refine Mine.Stop.mk ?_)
section
variable {A : Around} {fr : List Env} {s : Shared} {h : Heap} {L fa : Addr} {cd : Value} {tk : Nat} {m : Str → Option Value} {E : Value → Shared → Prop} {Q : Flow → Shared → Prop} {co : Obj} {own rest : List (Addr × Obj)} {FA LO NU : Addr} {nv : List Value} {xs : List Int} {K : Nat} {t : T} {tt : Tok}
  {ad nm dd : Nat → Addr} {tag : Addr → Nat}
theorem via_one {fz : List (Addr × Obj)} {l D : Addr} {x : Str} {tx : Tok} {v : Value} {d : PyData} {u c : Nat} (hv : Via fz v d) : Via ((l, W.listOf (List.toArray [Value.ref D]) c) :: (D, (⟨.type "tuple", none, .seq #[.str x tx, v] u, #[]⟩ : Obj)) :: fz) (.ref l) (.list [.tuple [.str x, d]]) :=
  Via.list (fz := (D, (⟨.type "tuple", none, .seq #[.str x tx, v] u, #[]⟩ : Obj)) :: fz) (fun h hh => let ⟨_, r⟩ := Via.pair (hv.more fun z hz => .tail _ hz) (.head _) h hh; ⟨_, .cons r .nil⟩) (fun z hz => .tail _ hz) (.head _)
theorem lw_read (bs : Base1 w base p loose mean mg mb) (B : Below A base fr base) (hh : A.handled = none) (hroom : A.depth + 500 < recursionLimit) (hu : A.units + 5000 < cLine)
    (F : Fr base L h m) (N : News base L h ((L + 1, co) :: (own ++ rest))) (hco : co.data = .cell (some (Value.str t.text tt))) (m1 : m (Str.ofString "frames") = some (Value.ref FA))
    (hK : K ≤ 65) (PI : PInv (psAt xs K) K t) (S : BSt w rest FA LO NU nv (psAt xs K).n (fun j => ((psAt xs K).ar j).map (·.1)) (fun j => ((psAt xs K).ar j).reverse) (psAt xs K).lost ad nm dd tag)
    (k : ∀ h' tk', Fr base L h' m → News base L h' ((L + 1, co) :: (own ++ rest)) → Q .next { s with heap := h', toks := tk' }) :
    wpAny (model PySem.Challenge.pw_dw0016_01 w) (A.deeper (lawEnv L fa cd)) (exec (nth lawBody 3) (lawEnv L fa cd)) Q E { s with heap := h, toks := tk } := by
  have X := bs.K
  have T := bs.T
  obtain ⟨cf, hfa⟩ := S.fa
  have n0 := PI.n0
  ((try dsimp only [Mine.lawEnv]); (conv in (occs := *) (Mine.stScope Mine.lawStmt) => all_goals whnf))
  conv in (nth lawBody 3) => whnf
  k_steps
  show wpAny _ _ (call _ _ _) _ _ _
  rename Fr _ _ _ _ => F'
  have htl := Mine.T.text_len t PI.ok
  have hsz := PI.size
  have hnmok := pinv_ok PI (by omega)
  refine use_calls (readT bs (g := h) (text := t.text) (tt := tt) (by omega) (run_text t PI.ok hnmok)) B F' rfl rfl (fun b hb => nomatch hb) (fun a o e => by rw [e]; rfl) hh (by omega) (by omega) ?_ (fun _ _ _ _ U => let ⟨_, _, _, _, e, _⟩ := U; e.elim)
  rintro r h₁ tk₁ k₁ ⟨fz, hf, hn, hv⟩
  have st₁ : h.StaysIn h₁ := fun b o e => k₁ b o (fun m => nomatch m) e
  have F₁ := F'.keeps st₁
  have N₁ := news_join F' (N.keeps st₁) hf hn
  clear F' N
  k_steps
  show wpAny _ _ _ _ _ _
  rename Fr _ _ _ _ => F'
  have hfa' : (FA, W.listOf (List.toArray ((List.range (psAt xs K).n).map fun i => Value.ref (ad i))) cf) ∈ fz ++ (L + 1, co) :: (own ++ rest) := List.mem_append_right _ (.tail _ (List.mem_append_right _ hfa))
  refine item_M (i := 0) (v := Value.ref (ad 0)) N₁ hfa' (by omega) (by simp [n0]) ?_
  k_steps
  show wpAny _ _ (call _ _ _) _ _ _
  have hpk : ∀ q ∈ rest, 5 ≤ tag q.1 → h₁.get? q.1 = some q.2 := fun q hq _ => (N₁ q (List.mem_append_right _ (.tail _ (List.mem_append_right _ hq)))).1
  have AR := arena_of (gone := fun _ => false) (ar := (psAt xs K).ar) S hpk (fun _ _ => rfl) (fun i _ => by simp [List.filter_eq_self.mpr]) PI.rn
  refine use_calls (dueT bs (m := K) t 0 h₁ (Nat.le_of_eq PI.size) (by omega) n0 PI.sp PI.ok PI.nn (fun j hj => (PI.ids j).mp (.tail _ hj))) B F' rfl rfl (fun b hb => nomatch hb) ⟨AR, fun a o e => by rw [e]; rfl⟩ hh (by omega) (by omega) ?_ (fun _ _ _ _ U => let ⟨_, _, _, _, e, _⟩ := U; e.elim)
  rintro r₂ h₂ tk₂ k₂ ⟨fz₂, hf₂, hn₂, hv₂⟩
  have st₂ : h₁.StaysIn h₂ := fun b o e => k₂ b o (fun m => nomatch m) e
  have F₂ := F'.keeps st₂
  have N₂ := news_join F' (N₁.keeps st₂) hf₂ hn₂
  clear F' N₁ AR hpk
  k_steps
  show wpAny _ _ _ _ _ _
  rename News _ _ _ _ => N'
  rename Fr _ _ _ _ => F'
  obtain ⟨hlay, hdep⟩ := due_lay t t.len 0 hnmok
  have hlay' : PyData.canLay0 (.list [.tuple [.str (Str.ofString ""), t.dueD]]) = true := by
    simp only [PyData.canLay0, PyData.canLayAll0, Mine.T.dueD, hlay, Bool.and_true, Bool.true_and]; decide +kernel
  have hdep' : PyData.depth (.list [.tuple [.str (Str.ofString ""), t.dueD]]) ≤ 2 * t.size + 3 := by
    simp only [PyData.depth, PyData.depthAll, Mine.T.dueD]; omega
  obtain ⟨as1, r1⟩ := hv _ fun q hq => (N' q (.tail _ (.tail _ (List.mem_append_right _ (List.mem_append_left _ hq))))).1
  obtain ⟨as2, r2⟩ := via_one (l := _) (D := _) hv₂ _ fun q hq => (N' q (by
    rcases List.mem_cons.mp hq with rfl | hq
    · exact .head _
    · rcases List.mem_cons.mp hq with rfl | hq
      · exact .tail _ (.head _)
      · exact .tail _ (.tail _ (List.mem_append_left _ hq)))).1
  refine SeqAt.compareNe_reads r1 r2 hlay' hlay' (by have : min (PyData.depth (.list [.tuple [.str (Str.ofString ""), t.dueD]])) (PyData.depth (.list [.tuple [.str (Str.ofString ""), t.dueD]])) ≤ 2 * t.size + 3 := Nat.le_trans (Nat.min_le_left _ _) hdep'; show A.units + 3 + _ < _; omega) ?_
  rw [SeqAt.eqv_refl _ hlay']
  k_steps
  all_goals exact k _ _ F' (news_sub N' fun z hz => .tail _ (.tail _ (List.mem_append_right _ (List.mem_append_right _ hz))))
end
end Mine
end -- L8
section -- L9
open PySem PySem.W PyProof.Rows PySem.Calls PySem.Spec
set_option maxHeartbeats 8000000
namespace Mine
variable {w : World} {base : Heap} {p : Program} {loose : List Str} {mean : ExcName → Option Value} {mg mb : Str → Option Value}
local macro_rules | `(tactic| walk_at "nm val") => `(tactic| first | assumption | rfl | exact Mine.up_ne (by assumption) (by decide) | exact Mine.up_ne (Mine.up_ne (by assumption) (by decide)) (by decide))
local macro_rules | `(tactic| walk_at "eval Name") => `(tactic| (name_kind "local"; (rename Fr _ _ _ _ => F'); with_unfolding_all refine Mine.ldC F' (by walk_at "nm val") ?_))
local macro_rules | `(tactic| walk_at "delItem ref str") => `(tactic| refine Mine.Stop.mk ?_)
local macro_rules | `(tactic| walk_at "subscriptTail Name Constant ref int") => `(tactic| refine Mine.Stop.mk ?_)
local macro_rules | `(tactic| walk_at "assign Tuple") => `(tactic| (k_here; (refine unpackN_ (by k_asm) (by k_asm) (by kun_tup) (by first | rfl | assumption) (by first | rfl | assumption) (by first | rfl | assumption) ?_); intro h' F' N'; (try k_sweep)))
noncomputable def forTarget : Stmt → PySem.Expr
  | .For t _ _ _ _ => t
  | _ => default
noncomputable def delStmt : Stmt := nth lawBody 4
section
variable {A : Around} {fr : List Env} {s : Shared} {h : Heap} {L fa : Addr} {cd : Value} {tk : Nat} {m : Str → Option Value} {E : Value → Shared → Prop} {Q : Flow → Shared → Prop} {led : List (Addr × Obj)} {T a nm dd : Addr} {c u : Nat} {x : Str} {t : Tok} {o : Obj} {kvs : List (Str × Value)}
theorem lw_del (bs : Base1 w base p loose mean mg mb) (B : Below A base fr base) (hh : A.handled = none) (hroom : A.depth + 500 < recursionLimit) (hu : A.units + 5000 < cLine)
    (F : Fr base L s.heap m) (N : News base L s.heap led) (hT : (T, pairObj (Value.ref a) (Value.str x t) u) ∈ led) (hf : (a, W.listOf (List.toArray [Value.ref nm, Value.ref dd]) c) ∈ led) (hd : (dd, o) ∈ led) (ho : o.IsDictOf (strKind PySem.Challenge.pw_dw0016_01 w) kvs) (hz : kvs.length ≤ 1000) (hin : (valueAt kvs x).isSome = true)
    (k : ∀ h' tk' m' o' led', Fr base L h' m' → News base L h' led' → Turned led led' dd o' → o'.IsDictOf (strKind PySem.Challenge.pw_dw0016_01 w) (without kvs x) → (∀ y, y ≠ Str.ofString "frame" → y ≠ Str.ofString "name" → m' y = m y) → Q .next { s with heap := h', toks := tk' }) :
    wpAny (model PySem.Challenge.pw_dw0016_01 w) (A.deeper (lawEnv L fa cd)) (assign (forTarget delStmt) (lawEnv L fa cd) (Value.ref T)) (fun _ s₃ => wpAny (model PySem.Challenge.pw_dw0016_01 w) (A.deeper (lawEnv L fa cd)) (execs (forBody delStmt) (lawEnv L fa cd)) Q E s₃) E s := by
  have X := bs.K
  have Tp := bs.T
  have N' : News base L s.heap ((T, pairObj (Value.ref a) (Value.str x t) u) :: led) := fun q hq => by
    rcases List.mem_cons.mp hq with rfl | hq
    · exact N _ hT
    · exact N q hq
  ((try dsimp only [Mine.lawEnv]); (conv in (occs := *) (Mine.stScope Mine.lawStmt) => all_goals whnf))
  conv in (forTarget delStmt) => whnf
  conv in (forBody delStmt) => whnf
  clear N
  k_steps
  show wpAny _ _ _ _ _ _
  rename News _ _ _ _ => N₁
  have N₂ := news_sub (b := led) N₁ fun z hz => .tail _ hz
  clear N₁
  refine item_M (i := 1) N₂ hf (by omega) rfl ?_
  k_steps
  show wpAny _ _ _ _ _ _
  rename Fr _ _ _ _ => F'
  refine delItem_M (k := x) (strKind_is _ _ x t) F' N₂ hd ho hin (by omega) fun h₃ o₃ led₃ F₃ N₃ U₃ hd₃ => ?_
  clear F' N₂
  k_steps
  exact k _ _ _ _ _ F₃ N₃ U₃ hd₃ (fun y q1 q2 => by simp only [if_neg q1, if_neg q2])
end
end Mine
end -- L9
section -- M1
open PySem PySem.W PyProof.Rows PySem.Calls PySem.Spec
namespace Mine
variable {w : World} {base : Heap} {p : Program} {loose : List Str} {mean : ExcName → Option Value} {mg mb : Str → Option Value}
noncomputable def goneAt (lost : List (Nat × Str)) (i : Nat) (x : Str) : Bool := ((lost.take i).map (·.2)).contains x
theorem gone_step {lost : List (Nat × Str)} {i r : Nat} {x : Str} (h : lost[i]? = some (r, x)) (y : Str) : goneAt lost (i + 1) y = (goneAt lost i y || decide (y = x)) := by
  unfold goneAt
  rw [List.take_add_one, h]
  simp only [Option.toList, List.map_append, List.map_cons, List.map_nil]
  by_cases e : y = x
  · subst e; simp
  · simp [e]
theorem Rel2.get {α β : Type} {P : α → β → Prop} {as : List α} {bs : List β} (h : Rel2 P as bs) : ∀ {i : Nat} {a : α}, as[i]? = some a → ∃ b, bs[i]? = some b ∧ P a b := by
  induction h with
  | nil => intro i a e; simp at e
  | cons p _ ih =>
    intro i a e
    cases i with
    | zero => simp only [List.getElem?_cons_zero, Option.some.injEq] at e; subst e; exact ⟨_, rfl, p⟩
    | succ i => simpa using ih (by simpa using e)
theorem kvs_without {ad : Nat → Addr} {kvs : List (Str × Value)} {rows : Rows} (h : KvsAre ad kvs rows) (x : Str) : KvsAre ad (without kvs x) (rows.filter fun r => decide (r.1 ≠ x)) := by
  induction h with
  | nil => exact .nil
  | @cons kv r kvs rows p _ ih =>
    unfold without at ih ⊢
    by_cases e : kv.1 = x
    · have e' : r.1 = x := p.1 ▸ e
      rw [List.filter_cons_of_neg (by simp [e]), List.filter_cons_of_neg (by simp [e'])]
      exact ih
    · have e' : ¬ r.1 = x := p.1 ▸ e
      rw [List.filter_cons_of_pos (by simp [e]), List.filter_cons_of_pos (by simp [e'])]
      exact .cons p ih
theorem value_some {kvs : List (Str × Value)} {x : Str} (h : x ∈ kvs.map (·.1)) : (valueAt kvs x).isSome = true := by
  unfold valueAt
  rw [Option.isSome_map, List.find?_isSome]
  obtain ⟨kv, h1, h2⟩ := List.mem_map.mp h
  exact ⟨kv, h1, by simpa using h2⟩
noncomputable def DelJ (w : World) (FA LO NU : Addr) (nv : List Value) (S : PS) (L : Addr) (co : Obj) (own : List (Addr × Obj)) (lvs : List Value) (lc : Nat) (ad nm dd : Nat → Addr) (tag : Addr → Nat) (i : Nat) (m : Str → Option Value) (news : List (Addr × Obj)) : Prop :=
  m (Str.ofString "frames") = some (Value.ref FA) ∧ m (Str.ofString "lost") = some (Value.ref LO) ∧ (L + 1, co) ∈ news ∧ (∀ q ∈ own, q ∈ news) ∧ (LO, W.listOf (List.toArray lvs) lc) ∈ news ∧ LostIn news ad tag lvs S.lost ∧
  BSt w news FA LO NU nv S.n (fun j => (S.ar j).map (·.1)) (fun j => (S.ar j).reverse.filter fun r => !goneAt S.lost i r.1) S.lost ad nm dd tag
section
variable {A : Around} {fr : List Env} {s : Shared} {h : Heap} {L fa : Addr} {cd : Value} {tk : Nat} {m : Str → Option Value} {E : Value → Shared → Prop} {Q : Flow → Shared → Prop} {co : Obj} {own : List (Addr × Obj)} {FA LO NU : Addr} {nv : List Value} {S : PS} {K : Nat} {t : T} {lvs : List Value} {lc : Nat}
  {ad nm dd : Nat → Addr} {tag : Addr → Nat}
theorem del_turn (bs : Base1 w base p loose mean mg mb) (B : Below A base fr base) (hh : A.handled = none) (hroom : A.depth + 500 < recursionLimit) (hu : A.units + 5000 < cLine) (hco : ∃ v, co.data = .cell v) (hown : ∀ q ∈ own, ∃ vs, q.2.data = .fields vs)
    (hK : K ≤ 65) (PI : PInv S K t) (hal : ∀ i, (S.ar i).length ≤ K) :
    ∀ i v m₁ news₁ (s₁ : Shared) I io, lvs[i]? = some v → DelJ w FA LO NU nv S L co own lvs lc ad nm dd tag i m₁ news₁ → (∀ p ∈ news₁, p.1 ≠ I) → Fr base L s₁.heap m₁ → News base L s₁.heap ((I, io) :: news₁) →
      wpAny (model PySem.Challenge.pw_dw0016_01 w) (A.deeper (lawEnv L fa cd)) (assign (forTarget delStmt) (lawEnv L fa cd) v) (fun _ s₃ => wpAny (model PySem.Challenge.pw_dw0016_01 w) (A.deeper (lawEnv L fa cd)) (execs (forBody delStmt) (lawEnv L fa cd)) (TurnT base L s₁ I io (DelJ w FA LO NU nv S L co own lvs lc ad nm dd tag (i + 1))) E s₃) E s₁ := by
  rintro i v m₁ news₁ s₁ I io hv ⟨m1, m2, hcm, hom, hlm, hlost, hB⟩ hne F N
  obtain ⟨⟨r, x⟩, hy, T, tx, u, rfl, hT, tT⟩ := hlost.get hv
  have hmem : (r, x) ∈ S.lost := List.mem_of_getElem? hy
  obtain ⟨hr, hx⟩ := PI.lo _ hmem
  obtain ⟨⟨cf, f1⟩, _, ⟨o, kvs, f4, f5, f6⟩, _⟩ := hB.fr r hr
  have hng : goneAt S.lost i x = false := by
    unfold goneAt
    rw [List.contains_eq_mem, decide_eq_false_iff_not, List.map_take]
    intro hm
    obtain ⟨a, ha, e⟩ := List.mem_take_iff_getElem.mp hm
    have hlt : i < S.lost.length := (List.getElem?_eq_some_iff.mp hy).1
    have hle : a < S.lost.length := by simp at ha; omega
    have e2 : S.lost[i].2 = x := by rw [List.getElem?_eq_getElem hlt] at hy; rw [Option.some.inj hy]
    have := (List.getElem_inj (h₀ := by simpa using hle) (h₁ := by simpa using hlt) PI.ln).mp (by simpa [e2] using e)
    simp at ha; omega
  have hkey : x ∈ kvs.map (·.1) := by
    rw [kvs_keys f6]
    obtain ⟨z, hz, e⟩ := List.mem_map.mp hx
    dsimp only at e
    exact List.mem_map.mpr ⟨z, List.mem_filter.mpr ⟨List.mem_reverse.mpr hz, by rw [e, hng]; rfl⟩, e⟩
  have hkl : kvs.length ≤ 1000 := by
    rw [f6.length]
    have h1 : ((S.ar r).reverse.filter fun z => !goneAt S.lost i z.1).length ≤ (S.ar r).reverse.length := List.length_filter_le _ _
    have := hal r
    rw [List.length_reverse] at h1
    omega
  refine lw_del (s := s₁) bs B hh hroom hu F N (.tail _ hT) (.tail _ f1) (.tail _ f4) f5 hkl (value_some hkey) fun h' tk' m' o' led' F' N' U hd' em => ?_
  have hIr : I ≠ dd r := fun e => hne _ f4 e.symm
  have hI : (I, io) ∈ led' := U.old _ (.head _) hIr
  have hodat : ∀ q ∈ news₁, (∀ es ep, q.2.data ≠ .dict es ep) → q ∈ led' := fun q hq hd => U.old q (.tail _ hq) (news_ne (news_sub N fun z hz => .tail _ hz) hq f4 (fun e => by
    obtain ⟨es, ep, _, hdd, _⟩ := f5
    exact hd es ep (by rw [e]; exact hdd)))
  have hnd : ∀ q ∈ led', q.1 ≠ I → q ∈ led'.filter (fun z => decide (z.1 ≠ I)) := fun q hq hn => List.mem_filter.mpr ⟨hq, decide_eq_true hn⟩
  have htr := (hB.ta r hr).2.2
  refine ⟨rfl, h', tk', m', led'.filter (fun z => decide (z.1 ≠ I)), rfl, F', fun z hz => ?_, fun z hz => of_decide_eq_true (List.mem_filter.mp hz).2, by rw [em _ (by decide) (by decide)]; exact m1, by rw [em _ (by decide) (by decide)]; exact m2, ?_, ?_, ?_, ?_, ?_⟩
  · rcases List.mem_cons.mp hz with rfl | hz
    · exact N' _ hI
    · exact N' _ (List.mem_filter.mp hz).1
  · refine hnd _ (hodat _ hcm fun es ep e => ?_) (hne _ hcm)
    obtain ⟨v, hv⟩ := hco
    rw [hv] at e; cases e
  · intro q hq
    refine hnd _ (hodat _ (hom q hq) fun es ep e => ?_) (hne _ (hom q hq))
    obtain ⟨v, hv⟩ := hown q hq
    rw [hv] at e; cases e
  · exact hnd _ (U.old _ (.tail _ hlm) fun e => by have e2 := congrArg tag e; rw [hB.tl, htr] at e2; omega) (hne _ hlm)
  · refine hlost.mono fun v y ⟨T', t', u', e1, e2, e3⟩ => ⟨T', t', u', e1, hnd _ (U.old _ (.tail _ e2) fun e => ?_) (hne _ e2), e3⟩
    have e4 := congrArg tag e
    dsimp only at e4
    rw [e3, htr] at e4; omega
  · have C := ((hB.retag (tag' := setTag tag I 4) fun q hq => if_neg (hne q hq)).more (led' := (I, io) :: news₁) fun z hz _ => .tail _ hz).cut hr hd' (kvs_without f6 x) (fun y hy j e => hB.kids r hr y (List.mem_filter.mp hy).1 j e) U
    have C2 := C.congr (nms' := fun j => (S.ar j).map (·.1)) (drows' := fun j => (S.ar j).reverse.filter fun z => !goneAt S.lost (i + 1) z.1) (fun j _ => rfl) (fun j hj => by
      by_cases e : j = r
      · subst e
        simp only [if_true, List.filter_filter]
        refine List.filter_congr fun z _ => ?_
        rw [gone_step hy]
        cases goneAt S.lost i z.1 <;> simp
      · simp only [if_neg e]
        refine List.filter_congr fun z hz => ?_
        rw [gone_step hy]
        have : z.1 ≠ x := fun e2 => e (PI.own j r x (List.mem_map.mpr ⟨z, List.mem_reverse.mp hz, e2⟩) hx)
        simp [this])
    have C3 := C2.more (led' := led'.filter (fun z => decide (z.1 ≠ I))) fun z hz ht => hnd z hz fun e => ht (by rw [e]; exact setTag_self _ _ _)
    exact C3.retag fun q hq => (if_neg (of_decide_eq_true (List.mem_filter.mp hq).2)).symm
end
end Mine
end -- M1
section -- M2
open PySem PySem.W PyProof.Rows PySem.Calls PySem.Spec
set_option maxHeartbeats 8000000
namespace Mine
variable {w : World} {base : Heap} {p : Program} {loose : List Str} {mean : ExcName → Option Value} {mg mb : Str → Option Value}
section
variable {A : Around} {fr : List Env} {s : Shared} {h : Heap} {L fa : Addr} {cd : Value} {tk : Nat} {m : Str → Option Value} {E : Value → Shared → Prop} {Q : Flow → Shared → Prop} {co : Obj} {own led : List (Addr × Obj)} {FA LO NU : Addr} {nv : List Value} {S : PS} {K : Nat} {t : T} {lvs : List Value} {lc : Nat}
  {ad nm dd : Nat → Addr} {tag : Addr → Nat}
theorem lw_dels (bs : Base1 w base p loose mean mg mb) (B : Below A base fr base) (hh : A.handled = none) (hroom : A.depth + 500 < recursionLimit) (hu : A.units + 5000 < cLine) (hE : PassesOwn (model PySem.Challenge.pw_dw0016_01 w) (A.deeper (lawEnv L fa cd)) (lawEnv L fa cd) E) (hco : ∃ v, co.data = .cell v) (hown : ∀ q ∈ own, ∃ vs, q.2.data = .fields vs)
    (hK : K ≤ 65) (PI : PInv S K t) (hal : ∀ i, (S.ar i).length ≤ K) (F : Fr base L h m) (N : News base L h led) (J0 : DelJ w FA LO NU nv S L co own lvs lc ad nm dd tag 0 m led)
    (k : ∀ h' tk' m' led', Fr base L h' m' → News base L h' led' → DelJ w FA LO NU nv S L co own lvs lc ad nm dd tag S.lost.length m' led' → Q .next { s with heap := h', toks := tk' }) :
    wpAny (model PySem.Challenge.pw_dw0016_01 w) (A.deeper (lawEnv L fa cd)) (exec (nth lawBody 4) (lawEnv L fa cd)) Q E { s with heap := h, toks := tk } := by
  have X := bs.K
  have T := bs.T
  have m2 := J0.2.1
  have hl := J0.2.2.2.2.1
  have hll : lvs.length = S.lost.length := J0.2.2.2.2.2.1.length
  show wpAny _ _ (exec (nth lawBody 4) (envOfC _ _ _ _ _)) _ _ _
  conv in (nth lawBody 4) => whnf
  refine For_invT base ?_ (by intro _; rfl) hE
  refine Mine.ldC F m2 ?_
  refine list_loopT (DelJ w FA LO NU nv S L co own lvs lc ad nm dd tag) hh hl F N (fun i m nw hJ => hJ.2.2.2.2.1) J0 ?_ ?_
  · exact del_turn bs B hh hroom hu hco hown hK PI hal
  · intro m₁ news₁ h₁ tk₁ hJ F₁ N₁
    rw [hll] at hJ
    exact k _ _ _ _ F₁ N₁ hJ
end
end Mine
end -- M2
section -- M4
open PySem PySem.W PyProof.Rows PySem.Calls PySem.Spec
set_option maxHeartbeats 8000000
namespace Mine
variable {w : World} {base : Heap} {p : Program} {loose : List Str} {mean : ExcName → Option Value} {mg mb : Str → Option Value}
local macro_rules | `(tactic| walk_at "call builtin:str.index cons nil") => `(tactic| refine Mine.Stop.mk ?_)
local macro_rules | `(tactic| walk_at "eval Name") => `(tactic| first
  | (refine lcf_cell (by assumption) (by rfl) (List.Mem.tail _ (List.Mem.head _)) (by assumption) ?_ (by rfl) (by rfl))
  | (refine LCgL.ld_own (by assumption) (List.Mem.head _) (by assumption) (by assumption) ?_))
noncomputable def firstComp : PySem.Expr := match nth lawBody 7 with
  | .Assign _ (.Subscript (.Call _ (c :: _) _ _) _ _) _ => c
  | _ => default
noncomputable def compElt : PySem.Expr → PySem.Expr
  | .ListComp e _ _ _ => e
  | e => e
noncomputable def compScope : PySem.Expr → Scope
  | .ListComp _ _ s _ => s
  | _ => default
noncomputable def tupEls : PySem.Expr → List PySem.Expr
  | .Tuple l _ _ => l
  | _ => []
noncomputable def EltOut (s : Shared) (i : Nat) (x : Str) (r : Value) (s₄ : Shared) : Prop := ∃ h' tk P o, r = Value.ref P ∧ s₄ = { s with heap := h', toks := tk } ∧ s.heap.StaysIn h' ∧ s.heap.get? P = none ∧ h'.get? P = some o ∧ ∃ t1 t2 n, o = (⟨.type "tuple", none, .seq #[Value.int i t1, Value.str x t2] n, #[]⟩ : Obj)
section
variable {A : Around} {E : Value → Shared → Prop} {s : Shared} {L C fa : Addr} {cd : Value} {m m₃ : Str → Option Value} {co oC : Obj} {text x : Str} {tt xt : Tok} {i : Nat} {rest : List Nat}
theorem elt_walk (N : News base L s.heap [(C, oC), (L + 1, co)]) (hC : LCg.NsObj oC m₃) (hco : co.data = .cell (some (Value.str text tt))) (hx : m₃ (Str.ofString "name") = some (Value.str x xt))
    (ho : Builtin.Str.occurrences text (x ++ Str.ofString "=") 0 text.length 1 = i :: rest) (hxl : x.length ≤ 1000) :
    wpAny (model PySem.Challenge.pw_dw0016_01 w) A (eval (compElt firstComp) (compEnvC (compScope firstComp) [(Str.ofString "text", L + 1)] C (lawEnv L fa cd)))
      (EltOut s i x) E s := by
  dsimp only [Mine.lawEnv]
  conv in (occs := *) (Mine.stScope Mine.lawStmt) => all_goals whnf
  conv in (compElt firstComp) => whnf
  conv in (compScope firstComp) => whnf
  refine wpAny_Tuple ?_
  k_steps
  refine SC.index ho ?_
  k_steps
  exact ⟨_, _, _, _, rfl, rfl, fun b o e => Heap.get?_push_of_some _ e, Heap.get?_none_of_le (Nat.le_refl _), Heap.get?_push_size _ rfl, _, _, _, rfl⟩
end
end Mine
end -- M4
section -- M3
open PySem PySem.W PyProof.Rows PySem.Calls PySem.Spec
set_option maxHeartbeats 8000000
namespace Mine
variable {w : World} {base : Heap} {p : Program} {loose : List Str} {mean : ExcName → Option Value} {mg mb : Str → Option Value}
local macro_rules | `(tactic| walk_at "getAttr ref true") => `(tactic| refine Mine.Stop.mk ?_)
local macro_rules | `(tactic| walk_at "call ref") => `(tactic| ((with_reducible show wpAny _ _ (call (Value.ref _) _ _) _ _ _); refine Mine.Stop.mk ?_))
local macro_rules | `(tactic| walk_at "unpackItems ref") => `(tactic| (k_here; first | (refine unpackItemsN_ (by k_asm) (by k_asm) (by kun_tup) (by assumption) (by rfl) ?_) | (refine Mine.unpackItemsH_ (by k_asm) (by k_asm) (by kun_tup) rfl (by repeat' (first | exact List.Mem.head _ | apply List.Mem.tail)) (by assumption) (Mine.Sees.none (by assumption)) (by rfl) ?_); intro h' F' N'; (try k_sweep)))
local macro_rules | `(tactic| walk_at "nm val") => `(tactic| first | assumption | rfl | exact Mine.up_ne (by assumption) (by decide) | exact Mine.up_ne (Mine.up_ne (by assumption) (by decide)) (by decide))
local macro_rules | `(tactic| walk_at "eval Name") => `(tactic| (name_kind "local"; (rename Fr _ _ _ _ => F'); with_unfolding_all refine Mine.ldC F' (by walk_at "nm val") ?_))
local macro_rules | `(tactic| walk_at "subscriptTail Name Constant ref int") => `(tactic| refine Mine.Stop.mk ?_)
theorem Sees.none {t : Addr} {vs : Array Value} (h : Sees t vs) : vs[2]? = some Value.none := h.2
theorem excAttr_KeyError : ExcAttrFacts "KeyError" where
  ga := .of (owner := "BaseException") (n := "__getattribute__") (by rw [typeLookup_type, builtinLookup_eq_fast]; kernel_rfl) (by decide +kernel) (by decide +kernel) (by decide +kernel)
    (by first | exact .inl (by decide +kernel) | exact .inr (by decide +kernel)) (by rw [isSubtype_type]; kernel_rfl)
  lkArgs := by rw [typeLookup_type, builtinLookup_eq_fast]; kernel_rfl
  sub := by rw [isSubtype_type]; kernel_rfl
theorem name_goesC {M : Model} {A : Around} {E : Value → Shared → Prop} {s : Shared} {name : Str} {scope : Scope} {L a : Addr} {cd : Value} {h₀ : Heap} {m : Str → Option Value} {news : List (Addr × Obj)} {n : Str} {pos : Pos} {Q : Unit → Shared → Prop} (F : Fr h₀ L s.heap m) (N : News h₀ L s.heap news)
    (h : ∀ h' v, Fr h₀ L h' (fun x => if x = n then v else m x) → News h₀ L h' news → Q () { s with heap := h', toks := s.toks + 1 })
    (hk : scope.kind = .function := by rfl) (hl : (envOfC name scope L a cd).kindOf n = some .local := by rfl) :
    wpAny M A (do bindName (envOfC name scope L a cd) n .none; unbindBehindTheSuite (envOfC name scope L a cd) n pos) Q E s :=
  wpAny_nameGoes_keeps hl F.ns (by show (scope.kind == .class || (scope.kind == .module && L != mainGlobals)) = false; rw [hk]; rfl) fun h' v hn hs => h h' v (F.set hn hs) (N.set hs)
structure KeyFree (p : Program) (loose : List Str) : Prop where
  h2 : (Str.ofString "KeyError") ∉ loose
  h3 : (Str.ofString "KeyError") ∉ (recsOf p).map (·.name)
  h4 : (Str.ofString "KeyError") ∉ (litsOf p).map (·.1)
  h4c : (Str.ofString "KeyError") ∉ (clssOf p loose).map (·.name)
section
variable {A : Around} {fr : List Env} {s : Shared} {h : Heap} {L fa : Addr} {cd : Value} {tk : Nat} {m : Str → Option Value} {E : Value → Shared → Prop} {Q : Flow → Shared → Prop} {co : Obj} {own led : List (Addr × Obj)} {FA LO NU : Addr} {nv : List Value} {xs : List Int} {K : Nat} {t : T} {lvs : List Value} {lc : Nat}
  {ad nm dd : Nat → Addr} {tag : Addr → Nat} {S : PS}
theorem lw_try (bs : Base1 w base p loose mean mg mb) (kf : KeyFree p loose) (B : Below A base fr base) (hh : A.handled = none) (hroom : A.depth + 500 < recursionLimit) (hu : A.units + 5000 < cLine)
    (hhit : ∀ h'', base.StaysIn h'' → HoldsAll own h'' → Hit h'')
    (hK : K ≤ 65) (PI : PInv S K t) (F : Fr base L h m) (N : News base L h led) (J : DelJ w FA LO NU nv S L co own lvs lc ad nm dd tag S.lost.length m led)
    (k1 : ∀ h' tk' m' led' tt, t.miss (goneAt S.lost S.lost.length) = none → Fr base L h' m' → News base L h' led' → (∀ q ∈ led, q ∈ led') → (∀ y, y ≠ Str.ofString "again" → y ≠ Str.ofString "missing" → m' y = m y) → m' (Str.ofString "again") = some (Value.str t.text tt) → m' (Str.ofString "missing") = some Value.none → Q .next { s with heap := h', toks := tk' })
    (k2 : ∀ h' tk' m' led' x xt a ot nt, t.miss (goneAt S.lost S.lost.length) = some x → Fr base L h' m' → News base L h' led' → (∀ q ∈ led, q ∈ led') → (∀ y, y ≠ Str.ofString "again" → y ≠ Str.ofString "missing" → y ≠ Str.ofString "error" → m' y = m y) → m' (Str.ofString "missing") = some (Value.ref a) → (a, ot) ∈ led' → ot.cls = .type "tuple" → ot.data = .seq #[Value.str x xt] nt → Q .next { s with heap := h', toks := tk' }) :
    wpAny (model PySem.Challenge.pw_dw0016_01 w) (A.deeper (lawEnv L fa cd)) (exec (nth lawBody 5) (lawEnv L fa cd)) Q E { s with heap := h, toks := tk } := by
  have X := bs.K
  have T := bs.T
  have n0 := PI.n0
  have hsz := PI.size
  obtain ⟨m1, m2, hcm, hom, hlm, hlost, hB⟩ := J
  obtain ⟨cf, hfa⟩ := hB.fa
  ((try dsimp only [Mine.lawEnv]); (conv in (occs := *) (Mine.stScope Mine.lawStmt) => all_goals whnf))
  conv in (nth lawBody 5) => whnf
  refine wpAny_Try_except ?_
  k_steps
  show wpAny _ _ _ _ _ _
  refine item_M (i := 0) (v := Value.ref (ad 0)) N hfa (by omega) (by simp [n0]) ?_
  k_steps
  show wpAny _ _ (call _ _ _) _ _ _
  rename Fr _ _ _ _ => F'
  have hpk : ∀ q ∈ led, 5 ≤ tag q.1 → (hideAll h []).get? q.1 = some q.2 := fun q hq _ => (N q hq).1
  have AR := arena_of (gone := goneAt S.lost S.lost.length) (ar := S.ar) hB hpk (fun _ _ => rfl) (fun i _ => rfl) PI.rn
  refine use_calls (toldT bs (m := K) t 0 [] (Nat.le_of_eq PI.size) (by omega) n0 PI.sp PI.ok PI.nn (fun j hj => (PI.ids j).mp (.tail _ hj)) (.inl rfl)) B F' rfl rfl (fun b hb => nomatch hb) ⟨AR, .inl ⟨rfl, hhit _ F'.keep fun q hq => (N q (hom q hq)).1⟩⟩ hh (by omega) (by omega) ?_ ?_
  · rintro v h₁ tk₁ k₁ ⟨hit, tt, hmiss, rfl⟩
    have st₁ : h.StaysIn h₁ := fun b o e => k₁ b o (fun m => nomatch m) e
    have F₁ := F'.keeps st₁
    have N₁ := N.keeps st₁
    clear F' N AR hpk
    k_steps
    rename Fr _ _ _ _ => F'
    rename News _ _ _ _ => N'
    exact k1 _ _ _ _ _ hmiss F' N' (fun q hq => .tail _ hq) (fun y q1 q2 => by simp only [if_neg q1, if_neg q2]) rfl rfl
  · intro x e h₁ tk₁ U
    have hmiss := U
    obtain ⟨_, _, _, _, ⟨_, hm⟩, _⟩ := hmiss
    refine caught_C B F' N U T ?_ kf.h2 kf.h3 kf.h4 kf.h4c
    intro h₂ tk₂ t₂ xt oe ot ws nt F₂ N₂ c1 c2 c3 c4 c5
    clear F' N AR hpk U
    k_steps
    refine args_attr excAttr_KeyError (N₂ _ (.head _)).1 c1 c2 c3.1 ?_
    k_steps
    rename Fr _ _ _ _ => F'
    rename News _ _ _ _ => N'
    refine unpackItemsH_ F' N' (by kun_tup) rfl (by repeat' (first | exact List.Mem.head _ | apply List.Mem.tail)) c2 c3.2 (by rfl) ?_
    intro h' F' N'
    k_steps
    rename Fr _ _ _ _ => F'
    rename News _ _ _ _ => N'
    refine name_goesC F' N' fun h₉ v₉ F₉ N₉ => ?_
    refine k2 _ _ _ _ x xt t₂ ot nt hm F₉ N₉ (fun q hq => ?_) (fun y q1 q2 q3 => by simp only [if_neg q1, if_neg q2, if_neg q3]) (by rfl) ?_ c4 c5
    · repeat' (first | exact hq | apply List.Mem.tail)
    · repeat' (first | exact List.Mem.head _ | apply List.Mem.tail)
end
end Mine
end -- M3
section -- M5
open PySem PySem.W PyProof.Rows PySem.Calls PySem.Spec
set_option maxHeartbeats 8000000
namespace Mine
variable {w : World} {base : Heap} {p : Program} {loose : List Str} {mean : ExcName → Option Value} {mg mb : Str → Option Value}
local macro_rules | `(tactic| walk_at "nm val") => `(tactic| first | assumption | rfl | exact Mine.up_ne (by assumption) (by decide) | exact Mine.up_ne (Mine.up_ne (by assumption) (by decide)) (by decide))
local macro_rules | `(tactic| walk_at "eval Name") => `(tactic| (name_kind "local"; (rename Fr _ _ _ _ => F'); with_unfolding_all refine Mine.ldC F' (by walk_at "nm val") ?_))
local macro_rules | `(tactic| walk_at "compareOp Eq ref ref") => `(tactic| refine Mine.Stop.mk ?_)
section
variable {A : Around} {fr : List Env} {s : Shared} {h : Heap} {L fa : Addr} {cd : Value} {tk : Nat} {m : Str → Option Value} {E : Value → Shared → Prop} {Q : Flow → Shared → Prop} {co : Obj} {led : List (Addr × Obj)} {LO : Addr} {text : Str} {tt ta : Tok} {lvs : List Value} {lc : Nat}
theorem lw_none (bs : Base1 w base p loose mean mg mb) (B : Below A base fr base) (hh : A.handled = none) (hroom : A.depth + 500 < recursionLimit) (hu : A.units + 5000 < cLine)
    (F : Fr base L h m) (N : News base L h ((L + 1, co) :: led)) (m2 : m (Str.ofString "lost") = some (Value.ref LO)) (hl : (LO, W.listOf (List.toArray []) lc) ∈ led) (hco : co.data = .cell (some (Value.str text tt))) (m3 : m (Str.ofString "again") = some (Value.str text ta))
    (k : ∀ h' tk', base.StaysIn h' → News base L h' ((L + 1, co) :: led) → Q (.ret (.bool true)) { s with heap := h', toks := tk' }) :
    wpAny (model PySem.Challenge.pw_dw0016_01 w) (A.deeper (lawEnv L fa cd)) (exec (nth lawBody 6) (lawEnv L fa cd)) Q E { s with heap := h, toks := tk } := by
  have X := bs.K
  have T := bs.T
  ((try dsimp only [Mine.lawEnv]); (conv in (occs := *) (Mine.stScope Mine.lawStmt) => all_goals whnf))
  conv in (nth lawBody 6) => whnf
  k_steps
  show wpAny _ _ _ _ _ _
  rename Fr _ _ _ _ => F'
  rename News _ _ _ _ => N'
  refine SeqAt.eq_listAt (items := #[]) (items2 := #[]) (e := fun _ => true) ⟨_, (N' _ (.tail _ (.tail _ hl))).1, rfl, _, rfl⟩ ⟨_, (N' _ (.head _)).1, rfl, _, rfl⟩ rfl (by show A.units + 3 < cLine; omega) (fun j h1 => absurd h1 (Nat.not_lt_zero _)) ?_
  show wpAny _ _ (truthy (Value.bool true)) _ _ _
  k_steps
  rename Fr _ _ _ _ => F''
  rename News _ _ _ _ => N''
  show Q (Flow.ret (Value.bool (text == text))) _
  rw [beq_self_eq_true text]
  exact k _ _ F''.keep (news_sub N'' fun z hz => .tail _ hz)
theorem lw_some (bs : Base1 w base p loose mean mg mb) (B : Below A base fr base) (hh : A.handled = none) (hroom : A.depth + 500 < recursionLimit) (hu : A.units + 5000 < cLine)
    (F : Fr base L h m) (N : News base L h ((L + 1, co) :: led)) (m2 : m (Str.ofString "lost") = some (Value.ref LO)) (hl : (LO, W.listOf (List.toArray lvs) lc) ∈ led) (hne : 0 < lvs.length)
    (k : ∀ h' tk', Fr base L h' m → News base L h' ((L + 1, co) :: led) → Q .next { s with heap := h', toks := tk' }) :
    wpAny (model PySem.Challenge.pw_dw0016_01 w) (A.deeper (lawEnv L fa cd)) (exec (nth lawBody 6) (lawEnv L fa cd)) Q E { s with heap := h, toks := tk } := by
  have X := bs.K
  have T := bs.T
  ((try dsimp only [Mine.lawEnv]); (conv in (occs := *) (Mine.stScope Mine.lawStmt) => all_goals whnf))
  conv in (nth lawBody 6) => whnf
  k_steps
  show wpAny _ _ _ _ _ _
  rename Fr _ _ _ _ => F'
  rename News _ _ _ _ => N'
  refine SeqAt.eq_list_lengthsAt (items := lvs.toArray) (items2 := #[]) ⟨_, (N' _ (.tail _ (.tail _ hl))).1, rfl, _, rfl⟩ ⟨_, (N' _ (.head _)).1, rfl, _, rfl⟩ (by simp; intro e; simp [e] at hne) (by show A.units + 3 < cLine; omega) ?_
  k_steps
  rename Fr _ _ _ _ => F''
  rename News _ _ _ _ => N''
  exact k _ _ F'' (news_sub N'' fun z hz => .tail _ hz)
end
end Mine
end -- M5
section -- M6
open PySem PySem.W PyProof.Rows PySem.Calls PySem.Spec
set_option maxHeartbeats 8000000
namespace Mine
variable {w : World} {base : Heap} {p : Program} {loose : List Str} {mean : ExcName → Option Value} {mg mb : Str → Option Value}
local macro_rules | `(tactic| walk_at "nm val") => `(tactic| first | assumption | rfl | exact Mine.up_ne (by assumption) (by decide) | exact Mine.up_ne (Mine.up_ne (by assumption) (by decide)) (by decide))
local macro_rules | `(tactic| walk_at "eval Name") => `(tactic| (name_kind "local"; (rename Fr _ _ _ _ => F'); with_unfolding_all refine Mine.ldC F' (by walk_at "nm val") ?_))
local macro_rules | `(tactic| walk_at "compareOp Eq ref ref") => `(tactic| refine Mine.Stop.mk ?_)
local macro_rules | `(tactic| walk_at "eval ListComp") => `(tactic| refine Mine.Stop.mk ?_)
noncomputable def GoodE (lost : List (Nat × Str)) (off : Str → Nat) (i : Nat) (o : Obj) : Prop := ∃ y, lost[i]? = some y ∧ ∃ t1 t2 n, o = (⟨.type "tuple", none, .seq #[Value.int (off y.2) t1, Value.str y.2 t2] n, #[]⟩ : Obj)
noncomputable def offAt (lost : List (Nat × Str)) (off : Str → Nat) (i : Nat) : Int := match lost[i]? with | some y => off y.2 | none => 0
section
variable {A : Around} {fr : List Env} {s : Shared} {h : Heap} {L fa : Addr} {cd : Value} {tk : Nat} {m : Str → Option Value} {E : Value → Shared → Prop} {Q : Flow → Shared → Prop} {co : Obj} {led : List (Addr × Obj)} {LO : Addr} {text : Str} {tt ta : Tok} {lvs : List Value} {lc : Nat}
  {ad : Nat → Addr} {tag : Addr → Nat} {lost : List (Nat × Str)} {off : Str → Nat}
theorem lw_first (bs : Base1 w base p loose mean mg mb) (B : Below A base fr base) (hh : A.handled = none) (hroom : A.depth + 500 < recursionLimit) (hu : A.units + 5000 < cLine)
    (F : Fr base L h m) (N : News base L h ((L + 1, co) :: led)) (m2 : m (Str.ofString "lost") = some (Value.ref LO)) (hl : (LO, W.listOf (List.toArray lvs) lc) ∈ led) (hco : co.data = .cell (some (Value.str text tt)))
    (hlost : LostIn led ad tag lvs lost) (hocc : ∀ y ∈ lost, ∃ rest, Builtin.Str.occurrences text (y.2 ++ Str.ofString "=") 0 text.length 1 = off y.2 :: rest) (hlen : ∀ y ∈ lost, y.2.length ≤ 1000)
    (hinj : ∀ (i j : Nat) y z, lost[i]? = some y → lost[j]? = some z → i ≠ j → off y.2 ≠ off z.2) (hne : 0 < lvs.length) (hle : lvs.length ≤ 1000)
    (k : ∀ h' tk' m' led' y xt, Fr base L h' m' → News base L h' led' → (∀ q ∈ (L + 1, co) :: led, q ∈ led') → m' (Str.ofString "first") = some (Value.str y xt) → (∀ z, z ≠ Str.ofString "first" → m' z = m z) → (∃ r ∈ lost, r.2 = y) → (∀ z ∈ lost, z.2 = y ∨ off y < off z.2) → Q .next { s with heap := h', toks := tk' }) :
    wpAny (model PySem.Challenge.pw_dw0016_01 w) (A.deeper (lawEnv L fa cd)) (exec (nth lawBody 7) (lawEnv L fa cd)) Q E { s with heap := h, toks := tk } := by
  have X := bs.K
  have T := bs.T
  ((try dsimp only [Mine.lawEnv]); (conv in (occs := *) (Mine.stScope Mine.lawStmt) => all_goals whnf))
  conv in (nth lawBody 7) => whnf
  k_steps
  show wpAny _ _ _ _ _ _
  have hLh : L < h.objs.size := let ⟨_, _, _, e, _⟩ := F.ns; Heap.lt_size e
  have hcl := (N _ (.head _)).1
  have hll := hlost.length
  refine comp_M (cl := [(Str.ofString "text", L + 1)]) (vs := lvs) (l := LO) (Good := GoodE lost off) (by with_unfolding_all rfl) (by decide) rfl (by decide) rfl rfl (by decide) hh ⟨_, (N _ (.tail _ hl)).1, rfl, _, rfl⟩ (by omega)
    (fun Q' hq => ldC F m2 hq) (fun i v hv => ?_) (fun D h₁ tk₁ ys c₁ hD st₁ hD₁ hyl hM hfr => ?_)
  · obtain ⟨⟨r, x⟩, hy, Tt, tx, u, rfl, hT, _⟩ := hlost.get hv
    refine ⟨Tt, _, _, rfl, ⟨_, (N _ (.tail _ hT)).1, rfl, _, rfl⟩, fun C s₃ m₃ E' hC hn ha hb st => ?_⟩
    obtain ⟨oC, hoC, hNs⟩ := LCg.ns_obj hn
    obtain ⟨rest, ho⟩ := hocc _ (List.mem_of_getElem? hy)
    have N₃ : News base L s₃.heap [(C, oC), (L + 1, co)] := fun q hq => by
      rcases List.mem_cons.mp hq with rfl | hq
      · exact ⟨hoC, fun e => by subst e; exact absurd hLh (Nat.not_lt.mpr hC), Heap.get?_none_of_le (Nat.le_trans F.above (Nat.le_trans (Nat.le_of_lt hLh) hC))⟩
      · rcases List.mem_cons.mp hq with rfl | hq
        · exact ⟨st _ _ hcl, (N _ (.head _)).2⟩
        · cases hq
    refine wpAny_mono (elt_walk (w := w) (fa := fa) (cd := cd) (E := E') N₃ hNs hco hb ho (hlen _ (List.mem_of_getElem? hy))) (fun r' s₄ hr => ?_) fun _ _ e => e
    obtain ⟨h', tk', P, o, e1, e2, e3, e4, e5, t1, t2, n, e6⟩ := hr
    exact ⟨h', tk', P, o, e1, e2, e3, e4, e5, _, hy, t1, t2, n, e6⟩
  have F₁ := F.keeps st₁
  have N₁ := News.more F₁ (N.keeps st₁) hD₁ (fun es n q => by cases q) (fresh_of_stays F.keep hD)
  have kb := F.keep
  clear N F
  k_steps
  have hys : ∀ (i : Nat) (v : Value), ys[i]? = some v → ∃ P y t1 t2 n, v = Value.ref P ∧ lost[i]? = some y ∧ h₁.get? P = some (⟨.type "tuple", none, .seq #[Value.int (off y.2) t1, Value.str y.2 t2] n, #[]⟩ : Obj) := fun i v hv => by
    obtain ⟨P, o, e1, e2, ⟨y, hy, t1, t2, n, e3⟩, _⟩ := hM i v hv
    exact ⟨P, y, t1, t2, n, e1, hy, e3 ▸ e2⟩
  refine min_pairs (vs := ys) (off := offAt lost off) hh (by show A.units + 3 + 10 < cLine; omega) hD₁ (fun i v hv => ?_) (fun i j hi hj hij => ?_) (by omega) (fun i h₂ tk₂ v hv hmin st₂ => ?_)
  · obtain ⟨P, y, t1, t2, n, e1, hy, e2⟩ := hys i v hv
    exact ⟨P, _, t1, n, e1, by rw [e2]; unfold offAt; rw [hy]⟩
  · have hi' : i < lost.length := by omega
    have hj' : j < lost.length := by omega
    unfold offAt
    rw [List.getElem?_eq_getElem hi', List.getElem?_eq_getElem hj']
    have := hinj i j _ _ (List.getElem?_eq_getElem hi') (List.getElem?_eq_getElem hj') hij
    simp only [ne_eq, Int.ofNat_inj]
    exact fun e => this (by exact_mod_cast e)
  · obtain ⟨P, y, t1, t2, n, rfl, hy, e2⟩ := hys i v hv
    have F₂ := F₁.keeps st₂
    have N₂ := News.more F₂ (N₁.keeps st₂) (st₂ _ _ e2) (fun es n q => by cases q) (fresh_of_stays kb (hfr i P hv))
    clear N₁ F₁
    k_steps
    rename Fr _ _ _ _ => F'
    rename News _ _ _ _ => N'
    refine k _ _ _ _ y.2 t2 F' N' (fun q hq => .tail _ (.tail _ hq)) rfl (fun z hz => if_neg hz) ⟨y, List.mem_of_getElem? hy, rfl⟩ fun z hz => ?_
    obtain ⟨j, hj, rfl⟩ := List.mem_iff_getElem.mp hz
    by_cases hij : j = i
    · subst hij
      rw [List.getElem?_eq_getElem hj] at hy
      cases hy; exact .inl rfl
    · have := hmin j (by omega) hij
      unfold offAt at this
      rw [hy, List.getElem?_eq_getElem hj] at this
      exact .inr (by simpa using this)
theorem eq_self_str {A : Around} {s : Shared} (x : Str) (t u : Tok) : SeqAt.EqAt A s (.str x t) (.str x u) true := by
  have := SeqAt.EqAt.str_str (A := A) (s := s) x t x u
  rwa [beq_self_eq_true x] at this
theorem lw_last {a : Addr} {ot : Obj} {x : Str} {xt xt' : Tok} {nt : Nat} (bs : Base1 w base p loose mean mg mb) (B : Below A base fr base) (hh : A.handled = none) (hroom : A.depth + 500 < recursionLimit) (hu : A.units + 5000 < cLine)
    (F : Fr base L h m) (N : News base L h led) (m2 : m (Str.ofString "missing") = some (Value.ref a)) (hl : (a, ot) ∈ led) (h1 : ot.cls = .type "tuple") (h2 : ot.data = .seq #[Value.str x xt] nt) (m3 : m (Str.ofString "first") = some (Value.str x xt'))
    (k : ∀ h' tk', base.StaysIn h' → News base L h' led → Q (.ret (.bool true)) { s with heap := h', toks := tk' }) :
    wpAny (model PySem.Challenge.pw_dw0016_01 w) (A.deeper (lawEnv L fa cd)) (exec (nth lawBody 8) (lawEnv L fa cd)) Q E { s with heap := h, toks := tk } := by
  have X := bs.K
  have T := bs.T
  ((try dsimp only [Mine.lawEnv]); (conv in (occs := *) (Mine.stScope Mine.lawStmt) => all_goals whnf))
  conv in (nth lawBody 8) => whnf
  k_steps
  show wpAny _ _ _ _ _ _
  rename Fr _ _ _ _ => F'
  rename News _ _ _ _ => N'
  refine SeqAt.eq_tupleAt (items := #[Value.str x xt]) (items2 := #[Value.str x xt']) (e := fun _ => true) ⟨_, (N' _ (.tail _ hl)).1, h1, _, h2⟩ ⟨_, (N' _ (.head _)).1, rfl, _, rfl⟩ (by show A.units + 3 < cLine; omega) (fun j j1 j2 => ?_) ?_
  · have j0 : j = 0 := by simp at j1; omega
    subst j0
    exact eq_self_str x xt xt'
  · exact k _ _ F'.keep (news_sub N' fun z hz => .tail _ hz)
end
end Mine
end -- M6
section -- M7
open PySem PySem.W PyProof.Rows PySem.Calls PySem.Spec
set_option maxHeartbeats 8000000
namespace Mine
variable {w : World} {base : Heap} {p : Program} {loose : List Str} {mean : ExcName → Option Value} {mg mb : Str → Option Value}
theorem gone_all {lost : List (Nat × Str)} {x : Str} : goneAt lost lost.length x = true ↔ ∃ r ∈ lost, r.2 = x := by
  unfold goneAt
  rw [List.take_length, List.contains_iff_mem, List.mem_map]
section
variable {A : Around} {fr : List Env} {s : Shared} {h : Heap} {L fa : Addr} {cd : Value} {tk : Nat} {m : Str → Option Value} {E : Value → Shared → Prop} {Q : Flow → Shared → Prop} {co : Obj} {sc : Addr} {vs : List Value} {ns : List Int}
theorem lw_all (bs : Base1 w base p loose mean mg mb) (kf : KeyFree p loose) (B : Below A base fr base) (hh : A.handled = none) (hroom : A.depth + 500 < recursionLimit) (hu : A.units + 5000 < cLine) (hE : PassesOwn (model PySem.Challenge.pw_dw0016_01 w) (A.deeper (lawEnv L fa cd)) (lawEnv L fa cd) E) (hfr : 38 ∉ frs fr)
    (F : Fr base L h m) (N : News base L h [(L + 1, co), (38, tabObj #[])]) (h38 : 38 < L) (hco : co.data = .cell none) (hsc : m (Str.ofString "script") = some (Value.ref sc)) (hl : base.IsList sc (List.toArray vs)) (hI : IntsAre vs ns) (hn : ns.length ≤ 63)
    (k : ∀ h' tk', base.StaysIn h' → Hit h' → Q (.ret (.bool true)) { s with heap := h', toks := tk' }) :
    wpAny (model PySem.Challenge.pw_dw0016_01 w) (A.deeper (lawEnv L fa cd)) (execs lawBody (lawEnv L fa cd)) Q E { s with heap := h, toks := tk } := by
  have q1 : A.depth + 1 < recursionLimit := by omega
  have q2 : A.units + 60 < cLine := by omega
  with_reducible refine lw_build bs B hh q1 q2 hE F N h38 hsc hl hI hn ?_
  rintro h₁ tk₁ m₁ news₁ FA LO NU nv F₁ N₁ ⟨m1, m2, m3, ad, nm, dd, tag, SB, htab, hcm, t38, tco⟩ hnv
  have q3 : nv.length ≤ 65 := by omega
  obtain ⟨t, PI⟩ := pinv_at ([4, 1] ++ ns.take 63) nv.length (by omega)
  show wpAny _ _ (execs (nth lawBody 2 :: lawBody.drop 3) _) _ _ _
  with_reducible refine stop_cons (lw_told bs B hh hroom hu hfr F₁ N₁ h38 hco hcm htab m1 q3 PI SB t38 tco ?_)
  intro h₂ tk₂ co' own rest tt F₂ N₂ hco' hhit hof S₂
  show wpAny _ _ (execs (nth lawBody 3 :: lawBody.drop 4) _) _ _ _
  with_reducible refine stop_cons (lw_read bs B hh hroom hu F₂ N₂ hco' m1 q3 PI S₂ ?_)
  intro h₃ tk₃ F₃ N₃
  obtain ⟨lvs, lc, s1, s2⟩ := S₂.lo
  have hal := ar_len ([4, 1] ++ ns.take 63) nv.length
  generalize psAt ([4, 1] ++ ns.take 63) nv.length = S at *
  have J0 : DelJ w FA LO NU nv S L co' own lvs lc ad nm dd tag 0 m₁ ((L + 1, co') :: (own ++ rest)) :=
    ⟨m1, m2, .head _, fun q hq => .tail _ (List.mem_append_left _ hq), .tail _ (List.mem_append_right _ s1),
      s2.mono fun v y ⟨T, t, u, e1, e2, e3⟩ => ⟨T, t, u, e1, .tail _ (List.mem_append_right _ e2), e3⟩,
      (S₂.more fun q hq _ => .tail _ (List.mem_append_right _ hq)).congr (fun _ _ => rfl) fun j _ => by simp [goneAt]⟩
  show wpAny _ _ (execs (nth lawBody 4 :: lawBody.drop 5) _) _ _ _
  with_reducible refine stop_cons (lw_dels bs B hh hroom hu hE ⟨_, hco'⟩ hof q3 PI hal F₃ N₃ J0 ?_)
  intro h₄ tk₄ m₄ led₄ F₄ N₄ J₄
  have J₄' := J₄
  obtain ⟨j1, j2, j3, j4, j5, j6, j7⟩ := J₄'
  obtain ⟨off, o1, o2, o3, o4⟩ := text_offs t PI.ok (pinv_ok PI (by omega)) PI.pn
  have hlp : ∀ y ∈ S.lost, y.2 ∈ t.pre := fun y hy => PI.rp _ _ (PI.lo y hy).2
  show wpAny _ _ (execs (nth lawBody 5 :: lawBody.drop 6) _) _ _ _
  with_reducible refine stop_cons (lw_try bs kf B hh hroom hu hhit q3 PI F₄ N₄ J₄ ?_ ?_)
  · intro h₅ tk₅ m₅ led₅ ta hm F₅ N₅ sub em ea _
    have hno : S.lost = [] := by
      rw [miss_find] at hm
      cases q : S.lost with
      | nil => rfl
      | cons y l =>
        have hy : y ∈ S.lost := q ▸ .head _
        exact absurd (gone_all.mpr ⟨y, hy, rfl⟩) (List.find?_eq_none.mp hm y.2 (hlp y hy))
    have hlv : lvs = [] := List.eq_nil_of_length_eq_zero (by rw [j6.length, hno]; rfl)
    subst hlv
    have N₅' : News base L h₅ ((L + 1, co') :: led₅) := fun q hq => by
      rcases List.mem_cons.mp hq with rfl | hq
      · exact N₅ _ (sub _ j3)
      · exact N₅ q hq
    show wpAny _ _ (execs (nth lawBody 6 :: lawBody.drop 7) _) _ _ _
    have e2 : m₅ (Str.ofString "lost") = some (Value.ref LO) := by rw [em _ (by decide) (by decide)]; exact j2
    with_reducible refine stop_cons (lw_none bs B hh hroom hu F₅ N₅' e2 (sub _ j5) hco' ea ?_)
    intro h₆ tk₆ st N₆
    exact k _ _ st (hhit _ st fun q hq => (N₆ _ (.tail _ (sub _ (j4 q hq)))).1)
  · intro h₅ tk₅ m₅ led₅ x xt a ot nt hm F₅ N₅ sub em ea hot c1 c2
    obtain ⟨g1, g2, g3⟩ := o4 _ _ hm
    obtain ⟨rx, hrx, hrx2⟩ := gone_all.mp g1
    have hne : 0 < lvs.length := by rw [j6.length]; exact List.length_pos_of_mem hrx
    have hlk := PI.lk
    have hle : lvs.length ≤ 1000 := by rw [j6.length]; omega
    have N₅' : News base L h₅ ((L + 1, co') :: led₅) := fun q hq => by
      rcases List.mem_cons.mp hq with rfl | hq
      · exact N₅ _ (sub _ j3)
      · exact N₅ q hq
    have e2 : m₅ (Str.ofString "lost") = some (Value.ref LO) := by rw [em _ (by decide) (by decide) (by decide)]; exact j2
    show wpAny _ _ (execs (nth lawBody 6 :: lawBody.drop 7) _) _ _ _
    with_reducible refine stop_cons (lw_some bs B hh hroom hu F₅ N₅' e2 (sub _ j5) hne ?_)
    intro h₆ tk₆ F₆ N₆
    have j6' : LostIn led₅ ad tag lvs S.lost := j6.mono fun v y ⟨T, t, u, e1, e2, e3⟩ => ⟨T, t, u, e1, sub _ e2, e3⟩
    show wpAny _ _ (execs (nth lawBody 7 :: lawBody.drop 8) _) _ _ _
    with_reducible refine stop_cons (lw_first (lost := S.lost) (off := off) bs B hh hroom hu F₆ N₆ e2 (sub _ j5) hco' j6' (fun y hy => o1 _ (hlp y hy)) (fun y hy => ?_) (fun i j y z hi hj hij e => ?_) hne hle ?_)
    · obtain ⟨q, k', hk', e⟩ := PI.nm _ (hlp y hy)
      rw [e]
      have := (nameOf_len q (k := k') (by omega)).2
      omega
    · have h1 := o3 _ (hlp y (List.mem_of_getElem? hi)) _ (hlp z (List.mem_of_getElem? hj)) e
      have hi' := (List.getElem?_eq_some_iff.mp hi)
      have hj' := (List.getElem?_eq_some_iff.mp hj)
      obtain ⟨hi1, hi2⟩ := hi'
      obtain ⟨hj1, hj2⟩ := hj'
      exact hij ((List.getElem_inj (h₀ := by simpa using hi1) (h₁ := by simpa using hj1) PI.ln).mp (by simp only [List.getElem_map, hi2, hj2]; exact h1))
    · intro h₇ tk₇ m₇ led₇ y yt F₇ N₇ sub₇ ey em₇ hy hmin
      obtain ⟨r, hr, hr2⟩ := hy
      have hyl : y ∈ t.pre := hr2 ▸ hlp r hr
      have hxy : y = x := by
        rcases hmin _ hrx with e | e
        · rw [← hrx2]; exact e.symm
        · rcases g3 y hyl (gone_all.mpr ⟨r, hr, hr2⟩) with e' | e'
          · exact e'
          · rw [hrx2] at e; omega
      subst hxy
      show wpAny _ _ (execs (nth lawBody 8 :: []) _) _ _ _
      have e9 : m₇ (Str.ofString "missing") = some (Value.ref a) := by rw [em₇ _ (by decide)]; exact ea
      with_reducible refine stop_cons (lw_last bs B hh hroom hu F₇ N₇ e9 (sub₇ _ (List.mem_cons_of_mem _ hot)) c1 c2 ey ?_)
      intro h₈ tk₈ st N₈
      exact k _ _ st (hhit _ st fun q hq => (N₈ _ (sub₇ _ (.tail _ (sub _ (j4 q hq))))).1)
end
end Mine
end -- M7
section -- M8
open PySem PySem.W PyProof.Rows PySem.Calls PySem.Spec
set_option maxHeartbeats 8000000
namespace Mine
variable {w : World} {base : Heap} {p : Program} {loose : List Str} {mean : ExcName → Option Value} {mg mb : Str → Option Value}
variable {A : Around} {fr : List Env} {s : Shared} {h : Heap} {L fa : Addr} {cd : Value} {tk : Nat} {m : Str → Option Value} {E : Value → Shared → Prop} {Q : Flow → Shared → Prop} {co : Obj} {sc : Addr} {vs : List Value} {ns : List Int}
theorem goodW_true {c : ClaimW} {cl : Str → Option Addr} {mean : ExcName → Option Value} {args : List WData} {s₁ s' : Shared} (st : s₁.heap.StaysIn s'.heap) (hg : s'.gens = #[]) (hn : ∀ cls, c.raises args cls = false) (hp : c.post args (.bool true) args = true) (hos : s'.os = s₁.os := by rfl) :
    GoodW c cl mean args s₁ (.ok (.ret (.bool true))) s' := ⟨.inl ⟨_, _, [], rfl, hn, .bool true, hp, unshared_nil⟩, st, hos, hg⟩
theorem lw_all' {prog : Program} {name : Str} {scope : Scope} {body : List Stmt} (e1 : prog = PySem.Challenge.pw_dw0016_01) (e2 : name = Str.ofString "law") (e3 : scope = stScope lawStmt) (e4 : body = lawBody)
    (bs : Base1 w base p loose mean mg mb) (kf : KeyFree p loose) (B : Below A base fr base) (hh : A.handled = none) (hroom : A.depth + 500 < recursionLimit) (hu : A.units + 5000 < cLine) (hE : PassesOwn (model prog w) (A.deeper (envOfC name scope L fa cd)) (envOfC name scope L fa cd) E) (hfr : 38 ∉ frs fr)
    (F : Fr base L h m) (N : News base L h [(L + 1, co), (38, tabObj #[])]) (h38 : 38 < L) (hco : co.data = .cell none) (hsc : m (Str.ofString "script") = some (Value.ref sc)) (hl : base.IsList sc (List.toArray vs)) (hI : IntsAre vs ns) (hn : ns.length ≤ 63)
    (kk : ∀ h' tk', base.StaysIn h' → Hit h' → Q (.ret (.bool true)) { s with heap := h', toks := tk' }) :
    wpAny (model prog w) (A.deeper (envOfC name scope L fa cd)) (execs body (envOfC name scope L fa cd)) Q E { s with heap := h, toks := tk } := by
  subst e1 e2 e3 e4
  with_reducible exact lw_all bs kf B hh hroom hu hE hfr F N h38 hco hsc hl hI hn kk
end Mine
theorem PySem.Challenge.cw_dw0016_01_holds : PySem.Challenge.rw_dw0016_01.Holds := by
  refine hd1 ?_
  w_strict (k_go0; (all_goals try k_fold))
  with_reducible rename CodeHd _ _ _ => cH
  with_reducible rename (Frag.In _ (ghostOf _ _)) => hX
  with_reducible rename (Top topProg _ _ _ _ _) => hT
  with_reducible rename (Below _ _ _ _) => hB
  with_reducible rename (Fr _ _ _ _) => hF
  with_reducible rename (News _ _ _ _) => hN
  with_reducible rename (Heap.IsList (ghostOf _ _) _ _) => hL
  with_reducible rename (IntsAre _ _) => hI
  with_reducible rename (38 < _) => h38
  with_reducible rename (_ = #[]) => hgen
  with_reducible rename (¬ _ < _) => h63
  have bs := Mine.Base1.mk hX hT cH (hN _ (.tail _ (.head _))).2.2
  with_reducible refine Mine.lw_all' (fr := []) ?ze1 ?ze2 ?ze3 ?ze4 bs ?zkf hB ?zhh ?zhr ?zhu ?zhE ?zhfr hF hN h38 ?zhco ?zhsc hL hI ?zhn ?zk
  case ze1 => kernel_rfl
  case ze2 => kernel_rfl
  case ze3 => kernel_rfl
  case ze4 => kernel_rfl
  case zkf => exact ⟨by decide +kernel, by decide +kernel, by decide +kernel, by decide +kernel⟩
  case zhh => exact rfl
  case zhr => decide
  case zhu => decide
  case zhE => passes_own
  case zhfr => exact fun hm => nomatch hm
  case zhco => assumption
  case zhsc => kernel_rfl
  case zhn => omega
  case zk =>
    intro h' tk' st hit
    refine ⟨Mine.goodW_true st hgen (raisesW_false (by wrow_none_raised)) (by wrow_post), ⟨_, hit.choose_spec.1⟩, trivial⟩
end -- M8
