import PyProof.Rows.All
import Wide.All
import OpenK.AllK
import Wide.FinOn
import PySem.Challenge.RW_nb0115_01
set_option Elab.async false
set_option linter.all false
namespace Mine
section
open PySem PySem.W PyProof.Rows PySem.Calls
set_option maxRecDepth 100000

abbrev P0 : Program := PySem.Challenge.pw_nb0115_01

/-- the table of coord_repr's code: empty, or filled once -/
def Tab (h : Heap) : Prop := ∃ ps, h.IsCode 92 88 ps ∧ h.TableAt 92 88 ps ∧ (ps = #[] ∨ ∃ c oc vs t, ps = #[rawInt 45, rawInt 4, .ref c] ∧ h.get? c = some oc ∧
  oc.cls = .type "code" ∧ oc.data = .fields vs ∧ vs[1]? = some (.str ("suffixed_err.<locals>.coord_repr" : Str) t))

theorem Tab.of {h h' : Heap} (T : Tab h) (k : ∀ b o vs, h.get? b = some o → o.data = .fields vs → (o.cls = .none ∨ o.cls = .type "code") → h'.get? b = some o) : Tab h' := by
  obtain ⟨ps, hi, ht, hc⟩ := T
  obtain ⟨⟨o₁, vs₁, a1, a2, a3, a4⟩, a5⟩ := ht
  obtain ⟨o, vs, file, tf, flags, tg, inF, text, tt, op, ho, hd, h11, h2, h7, h9, h10, hop, hpd, htr, hne⟩ := hi
  have e1 : o = o₁ := Option.some.inj (ho.symm.trans a1)
  subst e1
  have e2 : op = { cls := .none, data := .fields ps } := Option.some.inj (hop.symm.trans a5)
  subst e2
  have k1 := k _ _ _ a1 a3 (.inr a2)
  have k2 := k _ _ _ a5 rfl (.inl rfl)
  refine ⟨ps, ⟨o, vs, file, tf, flags, tg, inF, text, tt, _, k1, hd, h11, h2, h7, h9, h10, k2, rfl, htr, hne⟩, ⟨⟨o, vs₁, k1, a2, a3, a4⟩, k2⟩, ?_⟩
  rcases hc with hc | ⟨c, oc, vc, t, e, g, g2, g3, g4⟩
  · exact .inl hc
  · exact .inr ⟨c, oc, vc, t, e, k _ _ _ g g3 (.inr g2), g2, g3, g4⟩

def Keep (F : List Addr) (h h' : Heap) : Prop :=
  (∀ b o, h.get? b = some o → b ≠ 88 → (b ∉ F ∨ b < 132 → h'.get? b = some o) ∧ ∃ sl, h'.get? b = some { o with slots := sl }) ∧ (Tab h → Tab h')

theorem Keep.refl (F : List Addr) (h : Heap) : Keep F h h := ⟨fun _ o e _ => ⟨fun _ => e, o.slots, e⟩, id⟩
theorem Keep.trans {F : List Addr} {h h' h'' : Heap} (x : Keep F h h') (y : Keep F h' h'') : Keep F h h'' :=
  ⟨fun b o e n => ⟨fun f => (y.1 b o ((x.1 b o e n).1 f) n).1 f, let ⟨_, e1⟩ := (x.1 b o e n).2; let ⟨sl, e2⟩ := (y.1 b _ e1 n).2; ⟨sl, e2⟩⟩, fun t => y.2 (x.2 t)⟩
theorem Keep.mono {F F' : List Addr} {h h' : Heap} (x : Keep F h h') (s : ∀ b ∈ F, b ∈ F') : Keep F' h h' :=
  ⟨fun b o e n => ⟨fun f => (x.1 b o e n).1 (f.imp (fun f q => f (s b q)) id), (x.1 b o e n).2⟩, x.2⟩
theorem Keep.of_keeps (F : List Addr) {h h' : Heap} (k : ∀ b o, h.get? b = some o → h'.get? b = some o) : Keep F h h' :=
  ⟨fun b o e _ => ⟨fun _ => k b o e, o.slots, k b o e⟩, fun t => t.of fun b o _ e _ _ => k b o e⟩
theorem Keep.drop {F : List Addr} {L : Addr} {h h' : Heap} (x : Keep (L :: F) h h') (n : h.get? L = none) : Keep F h h' :=
  ⟨fun b o e q => ⟨fun f => (x.1 b o e q).1 (f.imp (fun f hb => by rcases List.mem_cons.mp hb with rfl | hb; (· rw [n] at e; cases e); exact f hb) id), (x.1 b o e q).2⟩, x.2⟩
theorem Keep.push {F : List Addr} {h h' : Heap} (x : Keep F h h') (o : Obj) : Keep F h (h'.push o) := x.trans (.of_keeps F fun _ _ e => Heap.get?_push_of_some o e)

/-- what may be changed in place without touching the codes -/
def Loose (h : Heap) (a : Addr) : Prop := ∀ o, h.get? a = some o → (∀ vs, o.data ≠ .fields vs) ∨ (o.cls ≠ .none ∧ o.cls ≠ .type "code")
theorem loose_ns {h : Heap} {a : Addr} {m : Str → Option Value} (n : h.Ns a m) : Loose h a := fun o e => by
  obtain ⟨o', es, ep, e', d, _⟩ := n
  obtain rfl : o = o' := Option.some.inj (e.symm.trans e')
  exact .inl fun vs q => by rw [d] at q; cases q
theorem loose_data {h : Heap} {a : Addr} {o : Obj} (e : h.get? a = some o) (d : ∀ vs, o.data ≠ .fields vs) : Loose h a := fun o' e' => by
  obtain rfl : o = o' := Option.some.inj (e.symm.trans e')
  exact .inl d
theorem loose_cls {h : Heap} {a : Addr} {o : Obj} {t : String} (e : h.get? a = some o) (d : o.cls = .type t) (n : t ≠ "code") : Loose h a := fun o' e' => by
  obtain rfl : o = o' := Option.some.inj (e.symm.trans e')
  exact .inr ⟨by rw [d]; nofun, by rw [d]; simpa using n⟩
theorem tab_same {h h' : Heap} {a : Addr} (T : Tab h) (s : Heap.SameBut a h h') (l : Loose h a) : Tab h' := T.of fun b o vs e d c => by
  by_cases q : b = a
  · subst q
    rcases l o e with l | ⟨l1, l2⟩
    · exact absurd d (l vs)
    · rcases c with c | c
      · exact absurd c l1
      · exact absurd c l2
  · exact (s.2 b q).trans e
theorem Keep.same {F : List Addr} {h₀ h h' : Heap} {a : Addr} (x : Keep F h₀ h) (n : h₀.get? a = none) (s : Heap.SameBut a h h') (l : Loose h a) : Keep F h₀ h' :=
  ⟨fun b o e q => by
    have ne : b ≠ a := fun z => by rw [z, n] at e; cases e
    refine ⟨fun f => (s.2 b ne).trans ((x.1 b o e q).1 f), ?_⟩
    obtain ⟨sl, e1⟩ := (x.1 b o e q).2
    exact ⟨sl, (s.2 b ne).trans e1⟩, fun t => tab_same (x.2 t) s l⟩
theorem Keep.ns {F : List Addr} {h h' : Heap} {a : Addr} {m : Str → Option Value} (x : Keep F h h') (n : h.Ns a m) (q : a ≠ 88) : h'.Ns a m := by
  obtain ⟨o, es, ep, e, d, r⟩ := n
  obtain ⟨sl, e1⟩ := (x.1 a o e q).2
  exact ⟨_, es, ep, e1, d, r⟩
theorem Keep.at {F : List Addr} {h h' : Heap} {a : Addr} {o : Obj} (x : Keep F h h') (e : h.get? a = some o) (q : a ≠ 88) : ∃ o', h'.get? a = some o' ∧ o'.cls = o.cls ∧ o'.data = o.data ∧ o'.dict = o.dict :=
  let ⟨_, e1⟩ := (x.1 a o e q).2; ⟨_, e1, rfl, rfl, rfl⟩
theorem Keep.isList {F : List Addr} {h h' : Heap} {a : Addr} {items : Array Value} (x : Keep F h h') (n : h.IsList a items) (q : a ≠ 88) : h'.IsList a items := by
  obtain ⟨o, e, c, k, d⟩ := n
  obtain ⟨o', e', c', d', _⟩ := x.at e q
  exact ⟨o', e', c'.trans c, k, d'.trans d⟩

/-- a heap without some places -/
def wo (F : List Addr) (h : Heap) : Heap := F.foldl (fun h a => h.update a fun o => { o with data := .freed }) h
theorem wo_get (F : List Addr) : ∀ (h : Heap) (b : Addr), (wo F h).get? b = if b ∈ F then none else h.get? b := by
  induction F with
  | nil => intro h b; simp [wo]
  | cons a F ih =>
    intro h b
    show (wo F (h.update a fun o => { o with data := .freed })).get? b = _
    rw [ih]
    by_cases q : b ∈ F
    · simp [q]
    · simp only [q, if_false, List.mem_cons, or_false]
      by_cases z : b = a
      · subst z
        simp only [if_true]
        cases e : (h.update b fun o => { o with data := .freed }).get? b with
        | none => rfl
        | some o =>
          obtain ⟨e1, e2⟩ := Heap.get?_some_iff.mp e
          obtain ⟨objs, life⟩ := h
          simp only [Heap.update, Array.getElem?_modify, if_true] at e1
          obtain ⟨o', _, rfl⟩ := Option.map_eq_some_iff.mp e1
          cases e2
      · simp only [z, if_false]
        exact Heap.get?_update_other h _ (Ne.symm z)
theorem wo_stays (F : List Addr) (h : Heap) : (wo F h).StaysIn h := fun b o e => by
  rw [wo_get] at e
  split at e
  · cases e
  · exact e

def frs (l : List Env) : List Addr := l.filterMap (·.frame)
theorem frs_cons {env : Env} {l : List Env} {L : Addr} (e : env.frame = some L) : frs (env :: l) = L :: frs l := by unfold frs; rw [List.filterMap_cons, e]

theorem funFrames_wo {h : Heap} {l : List Env} (x : h.FunFrames {} l) : h.FunFrames (wo (frs l) h) l := by
  have key : ∀ (G : List Addr) (l' : List Env), h.FunFrames {} l' → (∀ b ∈ frs l', b ∈ G) → h.FunFrames (wo G h) l' := by
    intro G l'
    induction l' with
    | nil => intro _ _; trivial
    | cons env r ih =>
      intro x s
      obtain ⟨a, ⟨L, o, b, c, d, e⟩, f⟩ := x
      rw [frs_cons b] at s
      exact ⟨a, ⟨L, o, b, by rw [wo_get, if_pos (s L (List.mem_cons_self ..))], d, e⟩, ih f fun q hq => s q (List.mem_cons_of_mem _ hq)⟩
  exact key _ _ x fun _ h => h
theorem funFrames_none {h base : Heap} {l : List Env} (x : h.FunFrames base l) : h.FunFrames {} l := by
  induction l with
  | nil => trivial
  | cons env r ih =>
    obtain ⟨a, ⟨L, o, b, _, d, e⟩, f⟩ := x
    exact ⟨a, ⟨L, o, b, rfl, d, e⟩, ih f⟩
theorem Keep.frames {F : List Addr} {h h' : Heap} {l : List Env} (x : Keep F h h') (f : h.FunFrames {} l) (q : 88 ∉ frs l) : h'.FunFrames {} l := by
  induction l with
  | nil => trivial
  | cons env r ih =>
    obtain ⟨a, ⟨L, o, b, _, d, e⟩, f⟩ := f
    rw [frs_cons b] at q
    obtain ⟨o', e', _, d', _⟩ := x.at d (fun z => q (by rw [z]; exact List.mem_cons_self ..))
    exact ⟨a, ⟨L, o', b, rfl, e', fun vs => d' ▸ e vs⟩, ih f fun z => q (List.mem_cons_of_mem _ z)⟩

/-- from the library's words for a raise to ours -/
theorem Keep.of_flight {F : List Addr} {h h' : Heap} (lo : ∀ b ∈ F, 131 < b) (s : (wo F h).StaysIn h') (u : ∀ b ∈ F, ∀ o, h.get? b = some o → ∃ sl, h'.get? b = some { o with slots := sl }) (nf : ∀ b ∈ F, ∀ o, h.get? b = some o → ∀ vs, o.data ≠ .fields vs) : Keep F h h' :=
  ⟨fun b o e _ => by
    by_cases q : b ∈ F
    · exact ⟨fun z => z.elim (fun z => absurd q z) fun z => absurd z (Nat.not_lt.mpr (lo b q)), u b q o e⟩
    · have := s b o (by rw [wo_get, if_neg q]; exact e)
      exact ⟨fun _ => this, o.slots, this⟩,
   fun t => t.of fun b o vs e d _ => s b o (by rw [wo_get, if_neg fun q => nf b q o e vs d]; exact e)⟩
theorem frames_data {h base : Heap} {l : List Env} (f : h.FunFrames base l) : ∀ b ∈ frs l, ∀ o, h.get? b = some o → ∀ vs, o.data ≠ .fields vs := fun b hb o e => by
  obtain ⟨_, o', e', d⟩ := f.mem hb
  obtain rfl : o = o' := Option.some.inj (e.symm.trans e')
  exact d

/-- room and what stands around a call -/
structure Rm (n : Nat) (A : Around) (outer : List Env) : Prop where
  hd : A.handled = none
  fr : A.frames = some outer
  gs : A.guards = some []
  dp : A.depth + n ≤ 900
  un : A.units + 10 * n ≤ 9000
  lo : ∀ b ∈ frs outer, 131 < b
theorem Rm.deeper {n : Nat} {A : Around} {outer : List Env} {env : Env} {L : Addr} (R : Rm (n + 1) A outer) (e : env.frame = some L) (q : 131 < L) : Rm n (A.deeper env) (env :: outer) :=
  ⟨R.hd, by show A.frames.map _ = _; rw [R.fr]; rfl, R.gs, by have := R.dp; show A.depth + 1 + n ≤ _; omega, by have := R.un; show A.units + 3 + 10 * n ≤ _; omega,
   by rw [frs_cons e]; intro b z; rcases List.mem_cons.mp z with z | z; (· rw [z]; exact q); exact R.lo b z⟩
theorem Rm.ne {n : Nat} {A : Around} {outer : List Env} (R : Rm n A outer) : 88 ∉ frs outer := fun z => absurd (R.lo _ z) (by decide)
theorem Rm.le {n k : Nat} {A : Around} {outer : List Env} (R : Rm n A outer) (h : k ≤ n) : Rm k A outer :=
  ⟨R.hd, R.fr, R.gs, by have := R.dp; omega, by have := R.un; omega, R.lo⟩

end
section
open PySem PySem.W PyProof.Rows PySem.Calls
set_option maxRecDepth 100000
section
variable {M : Model} {A : Around} {E : Value → Shared → Prop} {s : Shared}

theorem noteFrame_first {base : Heap} {env : Env} {outer : List Env} {L e : Addr} {oe : Obj} {vs : Array Value} {a0 : Value} {Q : Unit → Shared → Prop}
    (hfr : A.frames = some (env :: outer)) (hl : s.heap.FunFrames base (env :: outer)) (hf : env.frame = some L)
    (he : s.heap.get? e = some oe) (hkb : base.StaysIn s.heap) (hen : base.get? e = none) (hd : oe.data = .fields vs) (h1 : vs[1]? = some .none) (h0 : vs[0]? = some a0)
    (h : ∀ h', Heap.NotedW base (env :: outer) e oe.cls a0 (rawInt L) s.heap h' → Q () { s with heap := h' }) : wpAny M A (noteFrame (.ref e) env) Q E s := by
  unfold noteFrame
  simp only [hf]
  refine wpAny_bind (wpAny_field he hd h1 ?_)
  rw [if_neg (by decide)]
  exact wpAny_entryW hfr hl hf he hkb hen hd (Array.getElem?_eq_some_iff.mp h1).1 h0 h

theorem setFlight_some {base : Heap} {l : List Env} {e L : Addr} {cls a0 fl : Value} {Q : Unit → Shared → Prop}
    (hkb : base.StaysIn s.heap) (hl : s.heap.FunFrames base l) (ht : s.heap.TracedAtW base e cls a0 fl)
    (h : ∀ h', base.StaysIn h' → h'.FunFrames base l → h'.TracedAtW base e cls a0 (rawInt L) → (∀ b o, s.heap.get? b = some o → (∀ vs, o.data ≠ .fields vs) → h'.get? b = some o) → Q () { s with heap := h' }) :
    wpAny M A (setFlight (.ref e) (some L)) Q E s := by
  obtain ⟨oe, vs, T, oT, ts, he, hcls, hd, h1, hnT, hTe, hT, hdT, h3⟩ := ht
  have hsz3 : 3 < ts.size := (Array.getElem?_eq_some_iff.mp h3).1
  have other : ∀ b, b ≠ T → (s.heap.update T (Obj.mapFields (·.setIfInBounds 3 ((some L : Option Addr).elim Value.none fun f => rawInt f)))).get? b = s.heap.get? b :=
    fun b hb => Heap.get?_update_other _ _ (Ne.symm hb)
  have noRecord : ∀ b o, s.heap.get? b = some o → (∀ vs, o.data ≠ .fields vs) → b ≠ T := fun b o hb hnf q => by
    rw [q, hT] at hb; injection hb with hb; subst hb; exact hnf ts hdT
  unfold setFlight
  refine wpAny_bind (wpAny_field he hd h1 ?_)
  rw [if_pos (show (Value.ref T != Value.none) = true from by simp)]
  refine wpAny_setField hT hdT hsz3 (h _ (fun b o hbo => (other b fun q => by rw [q, hnT] at hbo; cases hbo).trans (hkb b o hbo))
    (hl.of_keeps fun b o hb hnf => ⟨o, (other b (noRecord b o hb hnf)).trans hb, rfl⟩) ?_ fun b o hb hnf => (other b (noRecord b o hb hnf)).trans hb)
  exact ⟨oe, vs, T, _, _, (other e (Ne.symm hTe)).trans he, hcls, hd, h1, hnT, hTe, Heap.get?_update_self _ hT (Obj.isFreed_of_fields (Obj.data_mapFields hdT _)), Obj.data_mapFields hdT _, by simp [hsz3]⟩

/-- an exception in the air over the frames l, since the heap h; fl: where it was last noted -/
structure Air (h : Heap) (l : List Env) (e : Addr) (cls a0 fl : Value) (h' : Heap) : Prop where
  stays : (wo (frs l) h).StaysIn h'
  fr : h'.FunFrames (wo (frs l) h) l
  tr : h'.TracedAtW (wo (frs l) h) e cls a0 fl
  up : ∀ b o, h.get? b = some o → (∀ vs, o.data ≠ .fields vs) → ∃ sl, h'.get? b = some { o with slots := sl }
  nf : ∀ b ∈ frs l, ∀ o, h.get? b = some o → ∀ vs, o.data ≠ .fields vs
  en : h.get? e = none
  lo : ∀ b ∈ frs l, 131 < b
theorem Air.keep {h h' : Heap} {l : List Env} {e : Addr} {cls a0 fl : Value} (x : Air h l e cls a0 fl h') : Keep (frs l) h h' :=
  Keep.of_flight x.lo x.stays (fun b hb o e => x.up b o e (x.nf b hb o e)) x.nf
theorem Air.there {h h' : Heap} {l : List Env} {e : Addr} {cls a0 fl : Value} (x : Air h l e cls a0 fl h') : ∃ ob, h'.get? e = some ob ∧ ob.cls = cls := x.tr.there
theorem Air.first {h h' : Heap} {l : List Env} {e : Addr} {cls a0 fl : Value} (x : Air h l e cls a0 fl h') : ∃ oe vs, h'.get? e = some oe ∧ oe.cls = cls ∧ oe.data = .fields vs ∧ vs[0]? = some a0 :=
  let ⟨oe, vs, _, _, _, he, hc, hd, _⟩ := x.tr; ⟨oe, vs, he, hc.1, hd, hc.2⟩

theorem up_trans {h h₁ h₂ : Heap} (x : ∀ b o, h.get? b = some o → (∀ vs, o.data ≠ .fields vs) → ∃ sl, h₁.get? b = some { o with slots := sl })
    (y : ∀ b o, h₁.get? b = some o → (∀ vs, o.data ≠ .fields vs) → ∃ sl, h₂.get? b = some { o with slots := sl }) :
    ∀ b o, h.get? b = some o → (∀ vs, o.data ≠ .fields vs) → ∃ sl, h₂.get? b = some { o with slots := sl } := fun b o e n =>
  let ⟨_, e1⟩ := x b o e n; let ⟨sl, e2⟩ := y b _ e1 n; ⟨sl, e2⟩

/-- raised just now: noted in the frame at hand -/
theorem air_note {h : Heap} {env : Env} {outer : List Env} {L e : Addr} {oe : Obj} {vs : Array Value} {a0 : Value} {Q : Unit → Shared → Prop} (lo : ∀ b ∈ frs (env :: outer), 131 < b)
    (hfr : A.frames = some (env :: outer)) (hl : h.FunFrames {} (env :: outer)) (hf : env.frame = some L) (hk : ∀ b o, h.get? b = some o → s.heap.get? b = some o)
    (hen : h.get? e = none) (he : s.heap.get? e = some oe) (hd : oe.data = .fields vs) (h1 : vs[1]? = some .none) (h0 : vs[0]? = some a0)
    (k : ∀ h', Air h (env :: outer) e oe.cls a0 (rawInt L) h' → (∀ b o, s.heap.get? b = some o → (∀ vs, o.data ≠ .fields vs) → ∃ sl, h'.get? b = some { o with slots := sl }) → Q () { s with heap := h' }) : wpAny M A (noteFrame (.ref e) env) Q E s := by
  have fw := funFrames_wo hl
  refine noteFrame_first (base := wo (frs (env :: outer)) h) hfr (fw.of_keeps fun b o e _ => ⟨o, hk b o e, rfl⟩) hf he (fun b o e => hk b o (wo_stays _ _ b o e)) ?_ hd h1 h0 fun h' hn => ?_
  · rw [wo_get]; split
    · rfl
    · exact hen
  · obtain ⟨n1, n2, n3, n4⟩ := hn
    exact k h' ⟨n1, n2, n3, fun b o e n => n4 b o (hk b o e) n, frames_data hl, hen, lo⟩ n4

theorem air_land {h : Heap} {l : List Env} {e : Addr} {cls a0 fl : Value} {Q : Unit → Shared → Prop} (x : Air h l e cls a0 fl s.heap)
    (k : ∀ h', Air h l e cls a0 .none h' → (∀ b o, s.heap.get? b = some o → (∀ vs, o.data ≠ .fields vs) → h'.get? b = some o) → Q () { s with heap := h' }) : wpAny M A (setFlight (.ref e) none) Q E s :=
  wpAny_setFlight_noneW x.stays x.fr x.tr fun h' n1 n2 n3 n4 => k h' ⟨n1, n2, n3, up_trans x.up fun b o e n => ⟨o.slots, n4 b o e n⟩, x.nf, x.en, x.lo⟩ n4
theorem air_lift {h : Heap} {l : List Env} {e L : Addr} {cls a0 fl : Value} {Q : Unit → Shared → Prop} (x : Air h l e cls a0 fl s.heap)
    (k : ∀ h', Air h l e cls a0 (rawInt L) h' → (∀ b o, s.heap.get? b = some o → (∀ vs, o.data ≠ .fields vs) → h'.get? b = some o) → Q () { s with heap := h' }) : wpAny M A (setFlight (.ref e) (some L)) Q E s :=
  setFlight_some x.stays x.fr x.tr fun h' n1 n2 n3 n4 => k h' ⟨n1, n2, n3, up_trans x.up fun b o e n => ⟨o.slots, n4 b o e n⟩, x.nf, x.en, x.lo⟩ n4
theorem air_again {h : Heap} {l : List Env} {env : Env} {e L : Addr} {cls a0 : Value} {Q : Unit → Shared → Prop} (hf : env.frame = some L) (x : Air h l e cls a0 (rawInt L) s.heap) (k : Q () s) : wpAny M A (noteFrame (.ref e) env) Q E s :=
  wpAny_noteFrame_againW hf x.tr k
/-- it comes back out of a block of the frame's own -/
theorem air_back {h : Heap} {l : List Env} {env : Env} {e L : Addr} {cls a0 fl : Value} (hf : env.frame = some L) (x : Air h l e cls a0 fl s.heap)
    (k : ∀ h', Air h l e cls a0 (rawInt L) h' → E (.ref e) { s with heap := h' }) : cameBackBy M A env E (.ref e) s := by
  unfold cameBackBy
  obtain ⟨oe, vs, T, oT, ts, he, hcls, hd, h1, hnT, hTe, hT, hdT, h3⟩ := id x.tr
  refine wpAny_bind (wpAny_field he hd h1 ?_)
  rw [if_neg (by simp)]
  rw [hf]
  exact air_lift x fun h' x' _ => k h' x'
end

section
variable {prog : Program} {w : World} {A : Around} {E : Value → Shared → Prop} {s : Shared} {env : Env}

/-- held in the frame's own try: its clause takes it -/
theorem air_clause {h : Heap} {l : List Env} {e : Addr} {X T : String} {a0 fl : Value} {t : Expr} {b₀ : Stmt} {suite : List Stmt} {pos : Pos} {rest : List ExceptHandler} {Q : Flow → Shared → Prop}
    (x : Air h l e (.type X) a0 fl s.heap)
    (hexc : isSubtype (.type T) (.type "BaseException") = pure true) (hnt : isSubtype (.type ((Manifest.find? T).elim "type" fun y => y.metatype)) (.type "tuple") = pure false) (hsub : isSubtype (.type X) (.type T) = pure true)
    (hname : ∀ Q' : Value → Shared → Prop, Q' (.type T) s → wpAny (model prog w) (A.mark (some (.ref e))) (eval t env) Q' (fun _ _ => False) s)
    (k : ∀ h', Keep (frs l) h h' → wpAny (model prog w) (A.mark (some (.ref e))) (execs (b₀ :: suite) env) Q (fun _ _ => False) { s with heap := h' }) :
    wpAny (model prog w) A (handleBy (.ref e) env (.ExceptHandler (some t) none (b₀ :: suite) pos :: rest)) Q E s := by
  obtain ⟨ob, ho, hc⟩ := x.there
  refine wpAny_handleBy_builtin (X := X) (T := T) (b := true) hexc hnt hsub (wpAny_mono (hname _ ⟨rfl, ⟨ob, ho, hc⟩, ?_⟩) (fun _ _ z => z) fun _ _ z => z.elim)
  rw [if_pos rfl]
  refine air_land x fun h' x' _ => ?_
  exact wpAny_mono (k h' x'.keep) (fun _ _ z => z) fun _ _ z => z.elim

/-- raised just now, right under the frame's own try -/
theorem air_caught {h : Heap} {outer : List Env} {L e : Addr} {X T : String} {t : Expr} {b₀ : Stmt} {suite : List Stmt} {pos : Pos} {rest : List ExceptHandler} {Q : Flow → Shared → Prop} (lo : ∀ b ∈ frs (env :: outer), 131 < b)
    (hfr : A.frames = some (env :: outer)) (hl : h.FunFrames {} (env :: outer)) (hf : env.frame = some L) (hx : Heap.NewExc h s.heap e X)
    (hexc : isSubtype (.type T) (.type "BaseException") = pure true) (hnt : isSubtype (.type ((Manifest.find? T).elim "type" fun y => y.metatype)) (.type "tuple") = pure false) (hsub : isSubtype (.type X) (.type T) = pure true)
    (hname : ∀ h', Keep (frs (env :: outer)) h h' → ∀ Q' : Value → Shared → Prop, Q' (.type T) { s with heap := h' } → wpAny (model prog w) (A.mark (some (.ref e))) (eval t env) Q' (fun _ _ => False) { s with heap := h' })
    (k : ∀ h', Keep (frs (env :: outer)) h h' → wpAny (model prog w) (A.mark (some (.ref e))) (execs (b₀ :: suite) env) Q (fun _ _ => False) { s with heap := h' }) :
    wpAny (model prog w) A (noteFrame (.ref e) env) (fun _ s₂ => wpAny (model prog w) A (setFlight (.ref e) none) (fun _ s₃ =>
      wpAny (model prog w) A (handleBy (.ref e) env (.ExceptHandler (some t) none (b₀ :: suite) pos :: rest)) Q E s₃) E s₂) E s := by
  obtain ⟨ob, tt, he, hc, hd⟩ := hx.there
  refine air_note lo hfr hl hf hx.keeps hx.new he hd rfl rfl fun h₁ x₁ _ => ?_
  rw [hc] at x₁
  refine air_land x₁ fun h₂ x₂ _ => ?_
  exact air_clause x₂ hexc hnt hsub (hname h₂ x₂.keep) k
/-- the same, out of a loop of the frame's own -/
theorem air_caught_back {h : Heap} {outer : List Env} {L e : Addr} {X T : String} {a0 : Value} {t : Expr} {b₀ : Stmt} {suite : List Stmt} {pos : Pos} {rest : List ExceptHandler} {Q : Flow → Shared → Prop}
    (hf : env.frame = some L) (x : Air h (env :: outer) e (.type X) a0 (rawInt L) s.heap)
    (hexc : isSubtype (.type T) (.type "BaseException") = pure true) (hnt : isSubtype (.type ((Manifest.find? T).elim "type" fun y => y.metatype)) (.type "tuple") = pure false) (hsub : isSubtype (.type X) (.type T) = pure true)
    (hname : ∀ h', Keep (frs (env :: outer)) h h' → ∀ Q' : Value → Shared → Prop, Q' (.type T) { s with heap := h' } → wpAny (model prog w) (A.mark (some (.ref e))) (eval t env) Q' (fun _ _ => False) { s with heap := h' })
    (k : ∀ h', Keep (frs (env :: outer)) h h' → wpAny (model prog w) (A.mark (some (.ref e))) (execs (b₀ :: suite) env) Q (fun _ _ => False) { s with heap := h' }) :
    wpAny (model prog w) A (noteFrame (.ref e) env) (fun _ s₂ => wpAny (model prog w) A (setFlight (.ref e) none) (fun _ s₃ =>
      wpAny (model prog w) A (handleBy (.ref e) env (.ExceptHandler (some t) none (b₀ :: suite) pos :: rest)) Q E s₃) E s₂) E s := by
  refine air_again hf x ?_
  refine air_land x fun h₂ x₂ _ => ?_
  exact air_clause x₂ hexc hnt hsub (hname h₂ x₂.keep) k
end
end
section
open PySem PySem.W PyProof.Rows PySem.Calls
set_option maxRecDepth 100000
namespace FF
theorem slot_contains : Slot "frozenset" "__contains__" "frozenset.__contains__" :=
  .of (owner := "frozenset") (n := "__contains__") (by rw [typeLookup_type, builtinLookup_eq_fast]; kernel_rfl) (by decide +kernel) (by decide +kernel) (by decide +kernel)
    (by first | exact .inl (by decide +kernel) | exact .inr (by decide +kernel)) (by rw [isSubtype_type]; kernel_rfl)
theorem owner : Manifest.owners.lookup (String.ofList ['t', 'e', 's', 'n', 'e', 'z', 'o', 'r', 'f'].reverse) = some Manifest.sig_frozenset := by kernel_rfl
theorem args_contains (a b : Value) : argsOk "frozenset.__contains__" ⟨[a, b], []⟩ := by
  unfold argsOk; rw [signature?_of (id := "frozenset.__contains__") (n := ['_', '_', 's', 'n', 'i', 'a', 't', 'n', 'o', 'c', '_', '_']) (o := ['t', 'e', 's', 'n', 'e', 'z', 'o', 'r', 'f']) (by kernel_rfl) owner]; kernel_rfl
theorem entry_contains : entryFor table "frozenset.__contains__" = some Builtin.«frozenset.__contains__» := entryFor_of_tree (by kernel_rfl)
theorem slot_isdisjoint : Slot "frozenset" "isdisjoint" "frozenset.isdisjoint" :=
  .of (owner := "frozenset") (n := "isdisjoint") (by rw [typeLookup_type, builtinLookup_eq_fast]; kernel_rfl) (by decide +kernel) (by decide +kernel) (by decide +kernel)
    (by first | exact .inl (by decide +kernel) | exact .inr (by decide +kernel)) (by rw [isSubtype_type]; kernel_rfl)
theorem args_isdisjoint (a b : Value) : argsOk "frozenset.isdisjoint" ⟨[a, b], []⟩ := by
  unfold argsOk; rw [signature?_of (id := "frozenset.isdisjoint") (n := ['t', 'n', 'i', 'o', 'j', 's', 'i', 'd', 's', 'i']) (o := ['t', 'e', 's', 'n', 'e', 'z', 'o', 'r', 'f']) (by kernel_rfl) owner]; kernel_rfl
theorem entry_isdisjoint : entryFor table "frozenset.isdisjoint" = some Builtin.«frozenset.isdisjoint» := entryFor_of_tree (by kernel_rfl)
theorem entry_isdisjoint_loop : entryFor table "frozenset.isdisjoint.loop" = some Builtin.«frozenset.isdisjoint.loop» := entryFor_of_tree (by kernel_rfl)
theorem plain_isdisjoint_loop : plainId "frozenset.isdisjoint.loop" = true := by decide +kernel
theorem type_isdisjoint : typeOf (.builtin "frozenset.isdisjoint") = pure (.type "method_descriptor") := by show builtinType _ = _; rw [builtinType_eq_fast]; kernel_rfl
theorem plainAttrs : PlainAttrs "frozenset" :=
  ⟨⟨"object.__getattribute__", by rw [typeLookup_type, builtinLookup_eq_fast]; kernel_rfl, by decide +kernel⟩, by rw [typeLookup_type, builtinLookup_eq_fast]; kernel_rfl⟩
end FF
def FSet (w : World) (h : Heap) (a : Addr) (S : Str → Bool) : Prop := ∃ o es ep t, h.get? a = some o ∧ o.cls = .type "frozenset" ∧ o.dict = none ∧ o.data = .set es ep t ∧ ElemsOf (strKind P0 w) es.toList ∧
  (∀ k, S k = true ↔ ∃ e ∈ es.toList, (strKind P0 w).is k e.2 = true) ∧ es.size < scanBound ∧ t.fits es.size = true
theorem FSet.typeIs {w : World} {s : Shared} {a : Addr} {S : Str → Bool} (h : FSet w s.heap a S) : s.TypeIs (.ref a) "frozenset" := let ⟨o, _, _, _, e, c, _⟩ := h; ⟨o, e, c⟩
theorem FSet.keep {w : World} {F : List Addr} {h h' : Heap} {a : Addr} {S : Str → Bool} (x : FSet w h a S) (k : Keep F h h') (q : a ≠ 88) : FSet w h' a S := by
  obtain ⟨o, es, ep, t, e, c, d, r1, r⟩ := x
  obtain ⟨o', e', c', d', dd⟩ := k.at e q
  exact ⟨o', es, ep, t, e', c'.trans c, dd.trans d, d'.trans r1, r⟩
theorem FSet.same {w : World} {h h' : Heap} {a : Addr} {S : Str → Bool} (x : FSet w h a S) (k : ∀ o, h.get? a = some o → h'.get? a = some o) : FSet w h' a S :=
  let ⟨o, es, ep, t, e, r⟩ := x; ⟨o, es, ep, t, k o e, r⟩

section
variable {w : World} {A : Around} {E : Value → Shared → Prop} {s : Shared}

theorem setContains_str {a : Addr} {S : Str → Bool} {x : Str} {t : Tok} {Q : Bool → Shared → Prop} (hS : FSet w s.heap a S) (h : Q (S x) { s with toks := s.toks + 1 }) :
    wpAny (model P0 w) A (setContains a (.str x t)) Q E s := by
  have hk := strKind_is P0 w x t
  unfold setContains
  refine wpAny_holding (wpAny_bind ((strKind P0 w).pyHash hk ?_))
  obtain ⟨o, es, ep, tb, ho, _, _, hd, hel, hmem, hb, hf⟩ := hS
  unfold setFind setFindIn
  refine wpAny_bind (wpAny_bind (wpAny_setState_of (s := { s with toks := s.toks + 1 }) ho hd hf ?_))
  dsimp only
  rw [byScan_of (knd := strKind P0 w) rfl hb hel]
  simp only [if_true]
  refine wpAny_bind (wpAny_rule (wpAny_bind (wpAny_setScan_of (knd := strKind P0 w) (s := { s with toks := s.toks + 1 }) hk ho hd hf hel ?_)))
  have hm := hmem x
  cases hr : List.findIdx? (fun e => (strKind P0 w).is x e.2) es.toList with
  | none =>
    refine wpAny_pure (wpAny_pure ?_)
    have : S x = false := by
      rw [← Bool.not_eq_true, hm]
      rintro ⟨e, he, hp⟩
      have := List.findIdx?_eq_none_iff.mp hr e he
      rw [hp] at this; exact Bool.noConfusion this
    rw [this] at h; exact h
  | some j =>
    refine wpAny_pure (wpAny_pure ?_)
    obtain ⟨hj, hp, _⟩ := List.findIdx?_eq_some_iff_getElem.mp hr
    have : S x = true := hm.mpr ⟨es.toList[j], List.getElem_mem hj, hp⟩
    rw [this] at h; exact h

theorem contains_fset {a : Addr} {S : Str → Bool} {x : Str} {t : Tok} {Q : Bool → Shared → Prop} (hS : FSet w s.heap a S) (h : Q (S x) { s with toks := s.toks + 1 }) :
    wpAny (model P0 w) A (contains (.ref a) (.str x t)) Q E s := by
  unfold contains
  try with_reducible refine wpAny_holding ?_
  refine wpAny_bind (wpAny_specialOf hS.typeIs FF.slot_contains.lookup ?_)
  show wpAny _ _ (if (some (Value.builtin "frozenset.__contains__") == some Value.none) = true then _ else _) _ E s
  rw [if_neg (by rw [beq_builtin_none]; exact Bool.false_ne_true)]
  refine wpAny_bind (wpAny_callSpecialUnlessNone?_slot (name := Str.ofString "__contains__") hS.typeIs FF.slot_contains
    (wpAny_call_entry FF.slot_contains hS.typeIs FF.entry_contains ?_ (FF.args_contains _ _)))
  unfold Builtin.«frozenset.__contains__» Builtin.Frozenset.oneOther Builtin.Frozenset.addrOf Builtin.Frozenset.withSetAsKey
  simp only [List.isEmpty_nil, pure_bind]
  refine wpAny_bind (wpAny_tryCatch (setContains_str hS ?_))
  exact wpAny_pure ⟨_, rfl, wpAny_truthy_bool h⟩

theorem in_fset {a : Addr} {S : Str → Bool} {x : Str} {t : Tok} {Q : Value → Shared → Prop} (hS : FSet w s.heap a S) (h : Q (.bool (S x)) { s with toks := s.toks + 1 }) :
    wpAny (model P0 w) A (compareOp .In (.str x t) (.ref a)) Q E s := by
  show wpAny _ _ (do return .bool (← contains (.ref a) (.str x t))) Q E s
  exact wpAny_bind (contains_fset hS (wpAny_pure h))
theorem notIn_fset {a : Addr} {S : Str → Bool} {x : Str} {t : Tok} {Q : Value → Shared → Prop} (hS : FSet w s.heap a S) (h : Q (.bool (!S x)) { s with toks := s.toks + 1 }) :
    wpAny (model P0 w) A (compareOp .NotIn (.str x t) (.ref a)) Q E s := by
  show wpAny _ _ (do return .bool (!(← contains (.ref a) (.str x t)))) Q E s
  exact wpAny_bind (contains_fset hS (wpAny_pure h))

theorem isdisjoint_loop {a I : Addr} {S : Str → Bool} {x : Str} {St : Nat → Heap → Prop} {R : Result → Shared → Prop} (haI : a ≠ I)
    (W : Walks P0 w A.in1 I [I] [I] x.cps.size (SignAt x) St) :
    ∀ (k i : Nat) (s : Shared), x.cps.size - i = k → i ≤ x.cps.size → St i s.heap → FSet w s.heap a S →
      (∀ h' tk, (∀ b o, b ≠ I → s.heap.get? b = some o → h'.get? b = some o) → R (.ok (.ret (.bool ((x.cps.toList.drop i).all fun c => !S ⟨#[c]⟩)))) { s with heap := h', toks := tk }) →
      codeAny (model P0 w) A (.builtin "frozenset.isdisjoint.loop" ⟨[.ref a, .ref I], []⟩) R s := by
  intro k
  induction k with
  | zero =>
    intro i s hk hi hst hS hR
    obtain rfl : i = x.cps.size := by omega
    refine codeAny_builtin FF.entry_isdisjoint_loop ?_
    rw [Around.under_plainId FF.plain_isdisjoint_loop _]
    show wpAny _ A.in1 (pyNext (.ref I) >>= _) _ _ s
    refine wpAny_bind (W.done s _ _ hst fun h' tk hm => ?_)
    refine wpAny_pure ?_
    have := hR h' tk fun b o hb e => hm b o (by simpa using hb) e
    rw [List.drop_of_length_le (by simp)] at this
    exact this
  | succ k ih =>
    intro i s hk hi hst hS hR
    have hlt : i < x.cps.size := by omega
    refine codeAny_builtin FF.entry_isdisjoint_loop ?_
    rw [Around.under_plainId FF.plain_isdisjoint_loop _]
    show wpAny _ A.in1 (pyNext (.ref I) >>= _) _ _ s
    refine wpAny_bind (W.item i s _ _ hlt hst fun v h' tk hP hst' hm => ?_)
    obtain ⟨c, u, hc, rfl⟩ := hP
    have hm' : ∀ b o, b ≠ I → s.heap.get? b = some o → h'.get? b = some o := fun b o hb e => hm b o (by simpa using hb) e
    have hS' : FSet w h' a S := hS.same fun o e => hm' a o haI e
    have hdr : x.cps.toList.drop i = c :: x.cps.toList.drop (i + 1) := by
      have : x.cps.toList[i]? = some c := by simpa using hc
      obtain ⟨hl, he⟩ := List.getElem?_eq_some_iff.mp this
      rw [List.drop_eq_getElem_cons hl, he]
    show wpAny _ A.in1 (holding [Value.str ⟨#[c]⟩ u] (setContains a (.str ⟨#[c]⟩ u)) >>= _) _ _ _
    refine wpAny_bind (wpAny_holding (setContains_str (s := { s with heap := h', toks := tk }) hS' ?_))
    cases hq : S ⟨#[c]⟩ with
    | true =>
      refine wpAny_pure ?_
      have := hR h' (tk + 1) hm'
      rw [hdr, List.all_cons, hq] at this
      exact this
    | false =>
      refine wpAny_pure ⟨plainId_quiet FF.plain_isdisjoint_loop _, ih (i + 1) _ (by omega) hlt (W.frame _ h' _ hst' fun b hb o e => e) hS' fun h'' tk'' hm'' => ?_⟩
      have := hR h'' tk'' fun b o hb e => hm'' b o hb (hm' b o hb e)
      rw [hdr, List.all_cons, hq] at this
      simpa using this

theorem isdisjoint_str {a : Addr} {S : Str → Bool} {x : Str} {t : Tok} {Q : Value → Shared → Prop} (hA : A.handled = none) (hS : FSet w s.heap a S)
    (h : ∀ h' tk, (∀ b o, s.heap.get? b = some o → h'.get? b = some o) → Q (.bool (x.cps.toList.all fun c => !S ⟨#[c]⟩)) { s with heap := h', toks := tk }) :
    wpAny (model P0 w) A (call (.builtin "frozenset.isdisjoint") [.ref a, .str x t]) Q E s := by
  refine wpAny_call (codeAny_call_builtin FF.slot_isdisjoint.plain FF.entry_isdisjoint (FF.slot_isdisjoint.check _ _ _ _ _ _ _ _ hS.typeIs (FF.args_isdisjoint _ _) ?_))
  unfold Builtin.«frozenset.isdisjoint» Builtin.Frozenset.oneOther Builtin.Frozenset.addrOf
  simp only [List.isEmpty_nil, pure_bind]
  rw [show (Value.str x t == Value.ref a) = false from rfl]
  simp only [Bool.false_eq_true, if_false]
  refine wpAny_bind (wpAny_typeOf (typeIs_str s x t) ?_)
  rw [show (Value.type "str" == Value.type "set" || Value.type "str" == Value.type "frozenset") = false from by decide]
  simp only [Bool.false_eq_true, if_false]
  refine wpAny_bind (wpAny_pyIter_str fun o St W st0 => ?_)
  have hlt : a < s.heap.objs.size := let ⟨_, _, _, _, e, _⟩ := hS; Heap.lt_size e
  refine wpAny_pure ⟨plainId_quiet FF.plain_isdisjoint_loop _, isdisjoint_loop (Nat.ne_of_lt hlt) (W A.in1 hA) _ 0 _ rfl (Nat.zero_le _) st0 (hS.same fun o' e => Heap.get?_push_of_some o e) fun h' tk hm => ?_⟩
  exact h h' tk fun b o' e => hm b o' (Nat.ne_of_lt (Heap.lt_size e)) (Heap.get?_push_of_some o e)
end
end
section
open PySem PySem.W PyProof.Rows PySem.Calls
set_option maxRecDepth 100000
def stmtAt (i : Nat) : Stmt := P0.main.body.getD i (.Pass ⟨0, 0, 0, 0⟩)
def fnName : Stmt → Str
  | .FunctionDef n .. => n
  | _ => ""
def fnParams : Stmt → Arguments
  | .FunctionDef _ p .. => p
  | _ => ⟨[], [], none, [], [], none, []⟩
def fnBody : Stmt → List Stmt
  | .FunctionDef _ _ b .. => b
  | _ => []
def fnScope : Stmt → Scope
  | .FunctionDef _ _ _ _ _ _ sc .. => sc
  | _ => { kind := .function, names := [], isGenerator := false, isCoroutine := false }
def fd (i : Nat) (pm cd : Value) : FuncData := docDef (fnName (stmtAt i)) (fnParams (stmtAt i)) (fnBody (stmtAt i)) (fnScope (stmtAt i)) pm cd .none

def Fn (h : Heap) (i : Nat) (a c : Addr) : Prop := ∃ o pm, h.get? a = some o ∧ o.data = .func (fd i pm (.ref c)) ∧ h.CodeRec (.ref c) (fnName (stmtAt i))
theorem Fn.keep {F : List Addr} {h h' : Heap} {i : Nat} {a c : Addr} (x : Fn h i a c) (k : Keep F h h') (qa : a ≠ 88) (qc : c ≠ 88) : Fn h' i a c := by
  obtain ⟨o, pm, e, d, c', oc, vs, t, e1, e2, e3, e4⟩ := x
  obtain ⟨o', e', _, d', _⟩ := k.at e qa
  cases e1
  obtain ⟨oc', e2', _, d2', _⟩ := k.at e2 qc
  exact ⟨o', pm, e', d'.trans d, c, oc', vs, t, rfl, e2', d2'.trans e3, e4⟩

def fns : List (Nat × Addr × Addr) := [(7, 65, 64), (8, 72, 71), (9, 79, 78), (10, 86, 85), (11, 93, 92), (13, 100, 99), (15, 107, 106), (16, 112, 111), (17, 119, 118), (18, 124, 123), (19, 131, 130)]
def gls : List (Str × Value) := [("skip_chars", .ref 65), ("skip_until", .ref 72), ("skip_comment", .ref 79), ("skip_comments_and_array_ws", .ref 86), ("suffixed_err", .ref 93), ("restore", .ref 100), ("_law_rows", .ref 107),
  ("_law_tells", .ref 112), ("_law_asked", .ref 119), ("_law_side", .ref 124), ("law", .ref 131), ("TOMLDecodeError", .ref 55), ("ILLEGAL_COMMENT_CHARS", .ref 36), ("TOML_WS_AND_NEWLINE", .ref 45), ("__builtins__", .ref 4)]
def bls : List (Str × Value) := [("IndexError", .type "IndexError"), ("ValueError", .type "ValueError"), ("KeyError", .type "KeyError"), ("len", .builtin "len"), ("int", .type "int"), ("chr", .builtin "chr"), ("sum", .builtin "sum"),
  ("range", .type "range"), ("ord", .builtin "ord"), ("str", .type "str"), ("list", .type "list")]

def wsC (c : Nat) : Bool := c == 32 || c == 9 || c == 10
def ilC (c : Nat) : Bool := (decide (c < 32) && c != 9) || c == 127
def one (f : Nat → Bool) (x : Str) : Bool := match x.cps.toList with
  | [c] => f c
  | _ => false
theorem one_sign (f : Nat → Bool) (c : Nat) : one f ⟨#[c]⟩ = f c := rfl

/-- the names that the walk asks for -/
structure Gl (mg mb : Str → Option Value) : Prop where
  gl : ∀ x v, gls.lookup x = some v → mg x = some v
  bl : ∀ x v, bls.lookup x = some v → mg x = none ∧ mb x = some v

abbrev bmV : List Value := [.type "ValueError", .type "Exception", .type "BaseException", .type "object"]
abbrev clsO (k0 k1 k2 k3 k5 : Option Value) : Obj := excClassObj "TOMLDecodeError" "TOMLDecodeError" 55 54 [.type "ValueError"] bmV true [] [] false none none k0 k1 k2 k3 k5 "ValueError.__new__"

structure Inv (w : World) (mg mb : Str → Option Value) (h : Heap) : Prop where
  g : h.Ns 3 mg
  b : h.Ns 0 mb
  lim : h.NoLimit
  dig : ∃ mc, h.Ns cStatics mc ∧ mc "sys.int_max_str_digits" = none
  fn : ∀ t ∈ fns, Fn h t.1 t.2.1 t.2.2
  ws : FSet w h 45 (one wsC)
  il : FSet w h 36 (one ilC)
  bm : ∃ o, h.get? 4 = some o ∧ o.cls = .type "module" ∧ o.dict = some 0 ∧ o.data = .plain
  cls : ∃ k0 k1 k2 k3 k5, h.get? 55 = some (clsO k0 k1 k2 k3 k5)
  cns : ∃ mN, h.Ns 54 mN ∧ mN "__init__" = none ∧ mN "__str__" = none
theorem Inv.keep {w : World} {mg mb : Str → Option Value} {F : List Addr} {h h' : Heap} (x : Inv w mg mb h) (k : Keep F h h') : Inv w mg mb h' where
  g := k.ns x.g (by decide)
  b := k.ns x.b (by decide)
  lim := let ⟨mc, a, b⟩ := x.lim; ⟨mc, k.ns a (by decide), b⟩
  dig := let ⟨mc, a, b⟩ := x.dig; ⟨mc, k.ns a (by decide), b⟩
  fn := fun t ht => (x.fn t ht).keep k (by revert t; decide) (by revert t; decide)
  ws := x.ws.keep k (by decide)
  il := x.il.keep k (by decide)
  bm := let ⟨_, e, a, b, c⟩ := x.bm; let ⟨o', e', a', c', b'⟩ := k.at e (by decide); ⟨o', e', a'.trans a, b'.trans b, c'.trans c⟩
  cls := let ⟨k0, k1, k2, k3, k5, e⟩ := x.cls; ⟨k0, k1, k2, k3, k5, (k.1 _ _ e (by decide)).1 (.inr (by decide))⟩
  cns := let ⟨mN, a, r⟩ := x.cns; ⟨mN, k.ns a (by decide), r⟩

theorem Inv.size {w : World} {mg mb : Str → Option Value} {h : Heap} (x : Inv w mg mb h) : 131 < h.objs.size := let ⟨_, _, e, _⟩ := x.fn (19, 131, 130) (by decide); Heap.lt_size e

section
variable {w : World} {M : Model} {A : Around} {E : Value → Shared → Prop} {s : Shared} {env : Env} {mg mb : Str → Option Value}
/-- a name of the frame's -/
theorem nm {x : Str} {pos : Pos} {m : Str → Option Value} {v : Value} {Q : Value → Shared → Prop} (hn : s.heap.Ns env.locals m) (hv : m x = some v) (h : Q v s)
    (hk : env.scope.kind = .function := by rfl) (hl : env.kindOf x = some .local := by rfl) (hd : (x == ("__debug__" : Str)) = false := by decide) : wpAny M A (eval (.Name x pos) env) Q E s :=
  wpAny_Name (wpAny_loadName_local hk hl hn hv h) hd
theorem nmG {x : Str} {pos : Pos} {v : Value} {Q : Value → Shared → Prop} (G : Gl mg mb) (I : Inv w mg mb s.heap) (hp : gls.lookup x = some v) (h : Q v s) (hg : env.globals = 3 := by rfl)
    (hk : env.scope.kind = .function := by rfl) (hx : env.kindOf x = some .globalImplicit := by rfl) (hd : (x == ("__debug__" : Str)) = false := by decide) : wpAny M A (eval (.Name x pos) env) Q E s :=
  Name_function_global hk hx (loadGlobal_global (mg := mg) (by rw [hg]; exact I.g) (G.gl _ _ hp) h) hd
theorem nmB {x : Str} {pos : Pos} {v : Value} {Q : Value → Shared → Prop} (G : Gl mg mb) (I : Inv w mg mb s.heap) (hp : bls.lookup x = some v) (h : Q v s) (hg : env.globals = 3 := by rfl) (hb : env.builtins = 0 := by rfl)
    (hk : env.scope.kind = .function := by rfl) (hx : env.kindOf x = some .globalImplicit := by rfl) (hd : (x == ("__debug__" : Str)) = false := by decide) : wpAny M A (eval (.Name x pos) env) Q E s :=
  Name_function_global hk hx (loadGlobal_builtin (mg := mg) (mb := mb) (by rw [hg]; exact I.g) (G.bl _ _ hp).1 (by rw [hb]; exact I.b) (G.bl _ _ hp).2 h) hd
end

/-- the frame at hand -/
structure St (F : List Addr) (h₀ : Heap) (L : Addr) (m : Str → Option Value) (h : Heap) : Prop where
  ns : h.Ns L m
  keep : Keep F h₀ h
  new : h₀.get? L = none
  ne : L ≠ 88
theorem St.store {F : List Addr} {h₀ h h' : Heap} {L : Addr} {m m' : Str → Option Value} (S : St F h₀ L m h) (n : h'.Ns L m') (s : Heap.SameBut L h h') : St F h₀ L m' h' :=
  ⟨n, S.keep.same S.new s (loose_ns S.ns), S.new, S.ne⟩
theorem St.on {F : List Addr} {h₀ h h' : Heap} {L : Addr} {m : Str → Option Value} (S : St F h₀ L m h) (k : Keep F h h') : St F h₀ L m h' :=
  ⟨k.ns S.ns S.ne, S.keep.trans k, S.new, S.ne⟩
theorem St.on' {F : List Addr} {h₀ h h' : Heap} {L : Addr} {m : Str → Option Value} (S : St F h₀ L m h) (k : Keep (L :: F) h h') : St F h₀ L m h' :=
  ⟨k.ns S.ns S.ne, ((S.keep.mono fun _ hb => List.mem_cons_of_mem L hb).trans k).drop S.new, S.new, S.ne⟩
theorem St.keeps {F : List Addr} {h₀ h h' : Heap} {L : Addr} {m : Str → Option Value} (S : St F h₀ L m h) (k : ∀ b o, h.get? b = some o → h'.get? b = some o) : St F h₀ L m h' := S.on (.of_keeps F k)
theorem St.inv {w : World} {mg mb : Str → Option Value} {F : List Addr} {h₀ h : Heap} {L : Addr} {m : Str → Option Value} (S : St F h₀ L m h) (I : Inv w mg mb h₀) : Inv w mg mb h := I.keep S.keep

theorem st_store {M : Model} {A : Around} {E : Value → Shared → Prop} {s : Shared} {env : Env} {F : List Addr} {h₀ : Heap} {m : Str → Option Value} {x : Str} {v : Value} {Q : Unit → Shared → Prop} (S : St F h₀ env.locals m s.heap)
    (h : ∀ h', St F h₀ env.locals (fun y => if y = x then some v else m y) h' → Q () { s with heap := h', toks := s.toks + 1 })
    (hk : env.scope.kind = .function := by rfl) (hl : env.kindOf x = some .local := by rfl) : wpAny M A (storeName env x v) Q E s :=
  wpAny_storeName_local hl S.ns (fun h' hn hs => h h' (S.store hn hs)) (by rw [hk]; rfl)

abbrev envFd (fd : FuncData) (L a : Addr) : Env :=
  { scope := fd.scope, locals := L, globals := fd.globals, cells := fd.closure, qual := fd.qualname ++ ".<locals>.", func := some a, code := fd.code, frame := some L, builtins := fd.builtins }
/-- into a plain def -/
theorem enterFd {w : World} {n : Nat} {A : Around} {outer : List Env} {s : Shared} {mg mb : Str → Option Value} {fd : FuncData} {body : List Stmt} {a : Addr} {o : Obj} {args : List Value} {kw : List (Str × Value)} {binds : List (Str × Value)} {Q : Value → Shared → Prop} {E : Value → Shared → Prop}
    (R : Rm (n + 1) A outer) (I : Inv w mg mb s.heap) (ho : s.heap.get? a = some o) (hd : o.data = .func fd) (hc : s.heap.CodeRec fd.code fd.qualname) (hb : fd.body = .stmts body)
    (hbind : bindArgs fd ⟨args, kw⟩ = pure binds)
    (hloc : ∀ x ∈ binds, fd.scope.names.lookup x.1 = some .local)
    (h : ∀ L h₁, L ≠ 88 → St (frs outer) s.heap L (fun x => binds.reverse.lookup x) h₁ → Rm n (A.deeper (envFd fd L a)) (envFd fd L a :: outer) →
      wpAny (model P0 w) (A.deeper (envFd fd L a)) (execs body (envFd fd L a))
        (fun f s' => Q (match f with | .ret v => v | _ => .none) s')
        (fun e s' => wpAny (model P0 w) (A.deeper (envFd fd L a)) (leaving (envFd fd L a) e) (fun _ s'' => E e s'') E s')
        { s with heap := h₁, toks := s.toks + binds.length })
    (hco : fd.scope.isCoroutine = false := by rfl) (hgen : fd.scope.isGenerator = false := by rfl) (hk : fd.scope.kind = .function := by rfl)
    (hcell : ∀ x ∈ fd.scope.names, x.2 ≠ .cell := by decide) :
    wpAny (model P0 w) A (call (.ref a) args kw) Q E s := by
  refine wpAny_call (codeAny_call_function (by have := R.dp; show A.depth < 1000; omega) ho hd hco hgen hb hc ?_)
  rw [hbind]
  refine wpAny_pure (wpAny_newFunctionEnv hcell hloc (fun h₁ hns hsb => ⟨I.lim.fresh _ hsb, ?_⟩) hk)
  show codeAny _ _ (.func body (envFd fd s.heap.objs.size a)) _ _
  have hL' : 131 < s.heap.objs.size := I.size
  have hL : s.heap.objs.size ≠ 88 := by omega
  have hnone : s.heap.get? s.heap.objs.size = none := Heap.get?_none_of_le (Nat.le_refl _)
  have S : St (frs outer) s.heap s.heap.objs.size (fun x => binds.reverse.lookup x) h₁ :=
    ⟨hns, ((Keep.refl (frs outer) s.heap).push _).same hnone hsb (loose_data (Heap.get?_push_size _ rfl) (fun vs q => by cases q)), hnone, hL⟩
  refine codeAny_func (wpAny_mono (h _ h₁ hL S (R.deeper rfl hL')) (fun f s' z => ?_) fun _ _ z => z)
  cases f <;> exact z

/-- into a plain def of the text -/
theorem enter {w : World} {n : Nat} {A : Around} {outer : List Env} {s : Shared} {mg mb : Str → Option Value} {i : Nat} {a c : Addr} {args : List Value} {kw : List (Str × Value)} {binds : List (Str × Value)} {Q : Value → Shared → Prop} {E : Value → Shared → Prop}
    (R : Rm (n + 1) A outer) (I : Inv w mg mb s.heap) (hf : (i, a, c) ∈ fns)
    (hbind : ∀ pm, bindArgs (fd i pm (.ref c)) ⟨args, kw⟩ = pure binds)
    (hloc : ∀ x ∈ binds, (fnScope (stmtAt i)).names.lookup x.1 = some .local)
    (h : ∀ L h₁, L ≠ 88 → St (frs outer) s.heap L (fun x => binds.reverse.lookup x) h₁ →
      Rm n (A.deeper (envOf (fnName (stmtAt i)) (fnScope (stmtAt i)) L a (.ref c))) (envOf (fnName (stmtAt i)) (fnScope (stmtAt i)) L a (.ref c) :: outer) →
      wpAny (model P0 w) (A.deeper (envOf (fnName (stmtAt i)) (fnScope (stmtAt i)) L a (.ref c))) (execs (fnBody (stmtAt i)) (envOf (fnName (stmtAt i)) (fnScope (stmtAt i)) L a (.ref c)))
        (fun f s' => Q (match f with | .ret v => v | _ => .none) s')
        (fun e s' => wpAny (model P0 w) (A.deeper (envOf (fnName (stmtAt i)) (fnScope (stmtAt i)) L a (.ref c))) (leaving (envOf (fnName (stmtAt i)) (fnScope (stmtAt i)) L a (.ref c)) e) (fun _ s'' => E e s'') E s')
        { s with heap := h₁, toks := s.toks + binds.length })
    (hco : (fnScope (stmtAt i)).isCoroutine = false := by rfl) (hgen : (fnScope (stmtAt i)).isGenerator = false := by rfl) (hk : (fnScope (stmtAt i)).kind = .function := by rfl)
    (hcell : ∀ x ∈ (fnScope (stmtAt i)).names, x.2 ≠ .cell := by decide) :
    wpAny (model P0 w) A (call (.ref a) args kw) Q E s := by
  obtain ⟨o, pm, ho, hd, hc⟩ := I.fn _ hf
  exact enterFd (fd := fd i pm (.ref c)) R I ho hd hc rfl (hbind pm) hloc h hco hgen hk hcell
end
section
open PySem PySem.W PyProof.Rows PySem.Calls
set_option maxRecDepth 100000
def runOf (f : Nat → Bool) (x : Str) (p : Nat) : Nat := ((x.cps.toList.drop p).takeWhile f).length
theorem drop_at {x : Str} {p c : Nat} (h : x.cps[p]? = some c) : x.cps.toList.drop p = c :: x.cps.toList.drop (p + 1) := by
  have : x.cps.toList[p]? = some c := by simpa using h
  obtain ⟨hl, he⟩ := List.getElem?_eq_some_iff.mp this
  rw [List.drop_eq_getElem_cons hl, he]
theorem runOf_step {f : Nat → Bool} {x : Str} {p c : Nat} (h : x.cps[p]? = some c) : runOf f x p = if f c then runOf f x (p + 1) + 1 else 0 := by
  unfold runOf
  rw [drop_at h, List.takeWhile_cons]
  cases f c <;> rfl
theorem runOf_end {f : Nat → Bool} {x : Str} {p : Nat} (h : x.length ≤ p) : runOf f x p = 0 := by
  unfold runOf
  rw [List.drop_of_length_le (by rw [Array.length_toList]; exact h)]
  rfl
abbrev ev (i : Nat) (L a c : Addr) : Env := envOf (fnName (stmtAt i)) (fnScope (stmtAt i)) L a (.ref c)

theorem frames_in {h₀ h : Heap} {outer : List Env} {L a c : Addr} {i : Nat} {m : Str → Option Value} (hF : h₀.FunFrames {} outer) (S : St (frs outer) h₀ L m h) (hn : 88 ∉ frs outer) (hk : (fnScope (stmtAt i)).kind = .function) :
    h.FunFrames {} (ev i L a c :: outer) := by
  obtain ⟨o, es, ep, e, d, _⟩ := S.ns
  exact ⟨by show (fnScope (stmtAt i)).kind ≠ .module; rw [hk]; decide, ⟨L, o, rfl, rfl, e, fun vs q => by rw [d] at q; cases q⟩, S.keep.frames hF hn⟩

section
variable {w : World} {A : Around} {E : Value → Shared → Prop} {s : Shared} {mg mb : Str → Option Value} {outer : List Env}
theorem sub_str {value slice : Expr} {x : Str} {t u : Tok} {p : Nat} {Q : Value → Shared → Prop} (hA : A.handled = none) (hx : p ≤ 1000000)
    (h0 : x.length ≤ p → ∀ h' tk e, Heap.NewExc s.heap h' e "IndexError" → E (.ref e) { s with heap := h', toks := tk })
    (h1 : ∀ c, x.cps[p]? = some c → Q (.str ⟨#[c]⟩ s.toks) { s with toks := s.toks + 1 })
    (hs : subscripted slice false (.str x t) (.int p u) = operate [.str x t, .int p u] (getItem (.str x t) (.int p u)) := by with_unfolding_all rfl)
    (ht : ∀ r, letTemporaryGo value (.str x t) r = pure () := by intro _; with_unfolding_all rfl) :
    wpAny (model P0 w) A (subscriptTail value slice (.str x t) (.int p u)) Q E s := by
  refine item_str_or hA (by unfold fitsSsize; simp; omega) (fun q => h0 (by omega)) (fun _ q => ?_) hs ht
  have hl : p < x.cps.size := by
    have : p < x.length := by omega
    exact this
  have hc : x.cps[((p : Int)).toNat]? = some x.cps[p] := by simp
  rw [item_meets (by omega) hc]
  exact h1 _ (by simp)

theorem skip_chars_spec {n p : Nat} {x : Str} {t u : Tok} {Q : Value → Shared → Prop} (G : Gl mg mb) (R : Rm (n + 1) A outer) (I : Inv w mg mb s.heap) (hF : s.heap.FunFrames {} outer) (hp : p ≤ x.length) (hx : x.length ≤ 100000)
    (h : ∀ h' tk u', Keep (frs outer) s.heap h' → Q (.int ((p + runOf wsC x p : Nat) : Int) u') { s with heap := h', toks := tk }) :
    wpAny (model P0 w) A (call (.ref 65) [.str x t, .int p u, .ref 45]) Q E s := by
  refine enter (i := 7) (c := 64) (binds := [("src", .str x t), ("pos", .int p u), ("chars", .ref 45)]) R I (by decide) (fun pm => by rfl) (by exact locs rfl) fun L h₁ hL S R' => ?_
  refine wpAny_execs_cons (wpAny_Try_except (wpAny_execs_cons (wpAny_While ?_)))
  -- what stands behind the try
  have fin : ∀ (h₂ : Heap) (tk : Nat) (m : Str → Option Value) (u' : Tok), St (frs outer) s.heap L m h₂ → m "pos" = some (.int ((p + runOf wsC x p : Nat) : Int) u') →
      wpAny (model P0 w) (A.deeper (ev 7 L 65 64)) (execs ((fnBody (stmtAt 7)).drop 1) (ev 7 L 65 64)) (fun f s' => Q (match f with | .ret v => v | _ => .none) s')
        (fun e s' => wpAny (model P0 w) (A.deeper (ev 7 L 65 64)) (leaving (ev 7 L 65 64) e) (fun _ s'' => E e s'') E s') { s with heap := h₂, toks := tk } := by
    intro h₂ tk m u' S₂ hm
    refine wpAny_execs_cons (wpAny_Return_some (nm S₂.ns hm ?_))
    exact h _ _ _ S₂.keep
  refine codeAny_whileLoop (fun k s' => ∃ p' h' tk m u', k = x.length - p' ∧ p' ≤ x.length ∧ p + runOf wsC x p = p' + runOf wsC x p' ∧ s' = { s with heap := h', toks := tk } ∧ St (frs outer) s.heap L m h' ∧
    m "src" = some (.str x t) ∧ m "pos" = some (.int ((p' : Nat) : Int) u') ∧ m "chars" = some (.ref 45)) ?_ (x.length - p) ⟨p, h₁, _, _, u, rfl, hp, rfl, rfl, S, rfl, rfl, rfl⟩
  rintro k s' ⟨p', h', tk, m, u', rfl, hp', hrun, rfl, S', m1, m2, m3⟩
  refine wpAny_isTrue_Compare1 (Subscript_ (nm S'.ns m1 (nm S'.ns m2 (sub_str R'.hd (by omega) (fun hge h₂ tk₂ e hx₂ => ?_) fun c hc => ?_))))
  · -- the text's end
    obtain rfl : p' = x.length := by omega
    rw [runOf_end (Nat.le_refl _)] at hrun
    have hFr := frames_in (i := 7) (a := 65) (c := 64) hF S' R.ne rfl
    obtain ⟨ob, tt, he, hcl, hd⟩ := hx₂.there
    refine air_note (s := { s with heap := h₂, toks := tk₂ }) R'.lo R'.fr hFr rfl hx₂.keeps hx₂.new he hd rfl rfl fun h₃ x₃ _ => ?_
    rw [hcl] at x₃
    refine air_back (s := { s with heap := h₃, toks := tk₂ }) rfl x₃ fun h₄ x₄ => ?_
    refine air_caught_back (s := { s with heap := h₄, toks := tk₂ }) (X := "IndexError") (T := "IndexError") rfl x₄ (isSubtype_of_subB (by decide +kernel)) (isSubtype_of_subB (by decide +kernel)) (isSubtype_of_subB (by decide +kernel)) (fun h₅ k₅ Q' q => ?_) fun h₅ k₅ => ?_
    · exact nmB G ((S'.on' k₅).inv I) rfl q
    · refine wpAny_execs_cons (wpAny_Pass (wpAny_execs_nil ?_))
      exact wpAny_mono (fin h₅ _ m u' (S'.on' k₅) (by rw [hrun]; exact m2)) (fun _ _ z => z) fun _ _ z => z
  · refine nm S'.ns m3 (in_fset (s := { s with heap := h', toks := tk + 1 }) (S'.inv I).ws (wpAny_truthy_bool ?_))
    rw [one_sign]
    have hlt : p' < x.length := (Array.getElem?_eq_some_iff.mp hc).1
    rw [runOf_step hc] at hrun
    cases hw : wsC c with
    | true =>
      rw [hw] at hrun
      rw [if_pos rfl]
      refine wpAny_execs_cons (wpAny_AugAssign_Name (wpAny_loadName_local rfl rfl S'.ns m2 (wpAny_Constant_int (wpAny_iadd_int (st_store S' fun h₂ S₂ => ?_)))))
      refine wpAny_execs_nil ⟨x.length - (p' + 1), by omega, p' + 1, h₂, _, _, _, rfl, hlt, by simp at hrun; omega, rfl, S₂, m1, rfl, m3⟩
    | false =>
      rw [hw] at hrun
      rw [if_neg (by decide)]
      refine wpAny_execs_nil (wpAny_execs_nil (wpAny_execs_nil ?_))
      exact fin h' _ m u' S' (by rw [hrun]; exact m2)
end
end
section
open PySem PySem.W PyProof.Rows PySem.Calls PySem.Builtin PySem.Builtin.Str PySem.StrLaws
set_option maxRecDepth 100000
abbrev nl : Str := Str.ofString "\n"
theorem nl_eq : nl = ⟨#[10]⟩ := by decide +kernel
theorem nl_len : nl.length = 1 := by decide +kernel
def notNl (c : Nat) : Bool := c != 10
def linesBefore (x : Str) (p : Nat) : Nat := (x.cps.toList.take p).count 10
def colOf (x : Str) (p : Nat) : Nat := ((x.cps.toList.take p).reverse.takeWhile notNl).length + 1

theorem at_nl (x : Str) (hi i : Nat) (h : hi ≤ x.length) : At x nl hi i ↔ i + 1 ≤ hi ∧ x.cps.toList[i]? = some 10 := by
  unfold At
  rw [nl_eq, subAt_eq]
  show (i + 1 ≤ hi ∧ ((x.cps.toList.drop i).take 1 == [10]) = true) ↔ _
  refine and_congr_right fun hi' => ?_
  have hl : i < x.cps.toList.length := by
    rw [Array.length_toList]; exact Nat.lt_of_lt_of_le (Nat.lt_of_succ_le hi') h
  rw [List.drop_eq_getElem_cons hl, List.take_succ_cons, List.take_zero, List.getElem?_eq_getElem hl]
  simp

theorem runOf_le (f : Nat → Bool) (x : Str) (p : Nat) (h : p ≤ x.length) : p + runOf f x p ≤ x.length := by
  unfold runOf
  have h1 : ((x.cps.toList.drop p).takeWhile f).length ≤ (x.cps.toList.drop p).length := List.Sublist.length_le (List.takeWhile_sublist f)
  rw [List.length_drop] at h1
  have h2 : x.cps.toList.length = x.length := Array.length_toList
  omega
theorem runOf_in (f : Nat → Bool) (x : Str) (p i : Nat) (h1 : p ≤ i) (h2 : i < p + runOf f x p) : ∃ c, x.cps.toList[i]? = some c ∧ f c = true := by
  unfold runOf at h2
  have hlt : i - p < ((x.cps.toList.drop p).takeWhile f).length := by omega
  have e : ((x.cps.toList.drop p).takeWhile f)[i - p]? = some (((x.cps.toList.drop p).takeWhile f)[i - p]) := List.getElem?_eq_getElem hlt
  have hp : (x.cps.toList.drop p).takeWhile f <+: x.cps.toList.drop p := List.takeWhile_prefix f
  have e2 := hp.getElem hlt
  refine ⟨((x.cps.toList.drop p).takeWhile f)[i - p], ?_, ?_⟩
  · rw [e2]
    have h3 : i - p < (x.cps.toList.drop p).length := Nat.lt_of_lt_of_le hlt hp.length_le
    rw [List.getElem_drop]
    have : p + (i - p) = i := by omega
    rw [List.getElem?_eq_getElem (by rw [List.length_drop] at h3; omega)]
    simp [this]
  · have := List.all_takeWhile (p := f) (l := x.cps.toList.drop p)
    rw [List.all_eq_true] at this
    exact this _ (List.getElem_mem hlt)
theorem runOf_stop (f : Nat → Bool) (x : Str) : ∀ (k p : Nat), x.length - p = k → p + runOf f x p < x.length → ∃ c, x.cps.toList[p + runOf f x p]? = some c ∧ f c = false := by
  intro k
  induction k with
  | zero =>
    intro p hk h
    omega
  | succ k ih =>
    intro p hk h
    have hl : p < x.cps.size := by have : p < x.length := by omega
                                   exact this
    have hc : x.cps[p]? = some x.cps[p] := by simp [hl]
    have hs := runOf_step (f := f) hc
    cases hf : f x.cps[p] with
    | true =>
      rw [hf] at hs
      simp only [if_true] at hs
      obtain ⟨c, e, hc'⟩ := ih (p + 1) (by omega) (by omega)
      refine ⟨c, ?_, hc'⟩
      rw [hs, show p + (runOf f x (p + 1) + 1) = p + 1 + runOf f x (p + 1) by omega]
      exact e
    | false =>
      rw [hf] at hs
      simp only [Bool.false_eq_true, if_false] at hs
      refine ⟨x.cps[p], ?_, hf⟩
      rw [hs, Nat.add_zero]
      simp

/-- the next line feed -/
theorem occ_nl (x : Str) (p : Nat) :
    (p + runOf notNl x p < x.length → ∃ r, occurrences x nl p x.length 1 = (p + runOf notNl x p) :: r) ∧ (p + runOf notNl x p = x.length → occurrences x nl p x.length 1 = []) := by
  have hin : ∀ i, p ≤ i → i < p + runOf notNl x p → ¬ At x nl x.length i := fun i h1 h2 ha => by
    obtain ⟨c, e, hc⟩ := runOf_in notNl x p i h1 h2
    have := ((at_nl x x.length i (Nat.le_refl _)).mp ha).2
    rw [e] at this
    cases this
    cases hc
  rcases occ_head_from x nl p 1 (Nat.le_refl 1) with ⟨h0, hn⟩ | ⟨k, r, h0, hlo, hk, hn⟩
  · refine ⟨fun hlt => ?_, fun _ => h0⟩
    obtain ⟨c, e, hc⟩ := runOf_stop notNl x _ p rfl hlt
    have : c = 10 := by simpa [notNl] using hc
    subst this
    exact absurd ((at_nl x x.length _ (Nat.le_refl _)).mpr ⟨hlt, e⟩) (hn _ (Nat.le_add_right ..))
  · have hk' := (at_nl x x.length k (Nat.le_refl _)).mp hk
    have hge : p + runOf notNl x p ≤ k := Nat.le_of_not_lt fun z => hin k hlo z hk
    refine ⟨fun hlt => ?_, fun he => ?_⟩
    · obtain ⟨c, e, hc⟩ := runOf_stop notNl x _ p rfl hlt
      have : c = 10 := by simpa [notNl] using hc
      subst this
      have hle : k ≤ p + runOf notNl x p := Nat.le_of_not_lt fun z => hn _ (Nat.le_add_right ..) z ((at_nl x x.length _ (Nat.le_refl _)).mpr ⟨hlt, e⟩)
      have : k = p + runOf notNl x p := Nat.le_antisymm hle hge
      exact ⟨r, by rw [h0, this]⟩
    · omega

theorem occ_count (x : Str) (p : Nat) (h : p ≤ x.length) : (occurrences x nl 0 p (x.length + 1)).length = linesBefore x p := by
  rw [occ_eq]
  have key : ∀ (n a : Nat) (st : Array Nat × Nat), a + n = p + 1 → st.snd ≤ a → st.fst.size ≤ a →
      (forIn (List.range' a n) st (occBody x nl p (x.length + 1))).run.fst.size = st.fst.size + ((x.cps.toList.take p).drop a).count 10 := by
    intro n
    induction n with
    | zero =>
      intro a st ha _ _
      rw [List.drop_of_length_le (by rw [List.length_take, Array.length_toList]; omega)]
      rfl
    | succ n ih =>
      intro a st ha h1 h2
      rw [List.range'_succ, List.forIn_cons]
      unfold occBody
      have hnl := nl_len
      by_cases hc : ((st.fst.size < x.length + 1 ∧ st.snd ≤ a) ∧ a + nl.length ≤ p) ∧ subAt x nl a = true
      · rw [if_pos hc]
        have hat := (at_nl x p a h).mp ⟨hc.1.2, hc.2⟩
        have e := ih (a + 1) (st.fst.push a, a + nl.length) (by omega) (by rw [hnl]; exact Nat.le_refl _) (by simp; omega)
        have hl : a < (x.cps.toList.take p).length := by rw [List.length_take, Array.length_toList]; have : x.cps.size = x.length := rfl; omega
        have hg : (x.cps.toList.take p)[a] = 10 := by
          have h3 : (x.cps.toList.take p)[a]? = some 10 := by rw [List.getElem?_take, if_pos (by omega)]; exact hat.2
          rw [List.getElem?_eq_getElem hl] at h3; exact Option.some.inj h3
        rw [List.drop_eq_getElem_cons hl, hg, List.count_cons_self]
        have e2 : (forIn (List.range' (a + 1) n) (st.fst.push a, a + nl.length) (occBody x nl p (x.length + 1))).run.fst.size = st.fst.size + 1 + ((x.cps.toList.take p).drop (a + 1)).count 10 := by simpa using e
        show (forIn (List.range' (a + 1) n) (st.fst.push a, a + nl.length) (occBody x nl p (x.length + 1))).run.fst.size = _
        rw [e2]; omega
      · rw [if_neg hc]
        have e := ih (a + 1) (st.fst, st.snd) (by omega) (by show st.snd ≤ a + 1; omega) (by show st.fst.size ≤ a + 1; omega)
        have e2 : ((x.cps.toList.take p).drop a).count 10 = ((x.cps.toList.take p).drop (a + 1)).count 10 := by
          by_cases hl : a < (x.cps.toList.take p).length
          · have hlp : a < p := by rw [List.length_take] at hl; omega
            rw [List.drop_eq_getElem_cons hl, List.count_cons_of_ne]
            intro hg
            refine hc ⟨⟨⟨by omega, h1⟩, by rw [hnl]; exact hlp⟩, ?_⟩
            refine ((at_nl x p a h).mpr ⟨hlp, ?_⟩).2
            have h3 : (x.cps.toList.take p)[a]? = some 10 := by rw [List.getElem?_eq_getElem hl, hg]
            rwa [List.getElem?_take, if_pos hlp] at h3
          · rw [List.drop_of_length_le (by omega), List.drop_of_length_le (by omega)]
        rw [e2]
        exact e
  have := key (p + 1) 0 (#[], 0) (by omega) (Nat.le_refl _) (Nat.le_refl _)
  rw [Array.length_toList]
  simpa [linesBefore] using this

theorem last_nl (x : Str) (p : Nat) (h : p ≤ x.length) (hc : linesBefore x p ≠ 0) : ∃ i, lastOccurrence x nl 0 p = some i ∧ i < p ∧ p - i = colOf x p := by
  rw [last_eq]
  have key := last_run x nl p (List.range' 0 (p + 1 - 0)) [] none (fun _ h => nomatch h) (fun _ h => nomatch h) (by simpa using List.pairwise_lt_range' (s := 0) (n := p + 1 - 0))
  have mem : ∀ i, At x nl p i → i ∈ [] ++ List.range' 0 (p + 1 - 0) := fun i hi => by have := hi.1; simp [List.mem_range'] <;> omega
  cases hr : (forIn (List.range' 0 (p + 1 - 0)) none (lastBody x nl p)).run with
  | none =>
    rw [hr] at key
    exfalso
    apply hc
    unfold linesBefore
    rw [List.count_eq_zero]
    intro hm
    obtain ⟨i, hi, e⟩ := List.getElem_of_mem hm
    have hip : i < p := by rw [List.length_take] at hi; omega
    have ha : At x nl p i := (at_nl x p i h).mpr ⟨hip, by
      have h3 : (x.cps.toList.take p)[i]? = some 10 := by rw [List.getElem?_eq_getElem hi, e]
      rwa [List.getElem?_take, if_pos hip] at h3⟩
    exact key i (mem i ha) ha
  | some a =>
    rw [hr] at key
    obtain ⟨ka, kn⟩ := key
    have ha := (at_nl x p a h).mp ka
    refine ⟨a, rfl, ha.1, ?_⟩
    unfold colOf
    have hla : a < x.cps.toList.length := (List.getElem?_eq_some_iff.mp ha.2).1
    have hsplit : x.cps.toList.take p = x.cps.toList.take a ++ 10 :: (x.cps.toList.take p).drop (a + 1) := by
      have h1 : (x.cps.toList.take p).take a ++ (x.cps.toList.take p).drop a = x.cps.toList.take p := List.take_append_drop ..
      have hl : a < (x.cps.toList.take p).length := by rw [List.length_take]; omega
      have hg : (x.cps.toList.take p)[a] = 10 := by
        have h3 : (x.cps.toList.take p)[a]? = some 10 := by rw [List.getElem?_take, if_pos (show a < p from ha.1)]; exact ha.2
        rw [List.getElem?_eq_getElem hl] at h3; exact Option.some.inj h3
      rw [List.drop_eq_getElem_cons hl, hg, List.take_take, Nat.min_eq_left (by omega)] at h1
      exact h1.symm
    have hall : ∀ c ∈ (x.cps.toList.take p).drop (a + 1), notNl c = true := by
      intro c hcm
      obtain ⟨j, hj, e⟩ := List.getElem_of_mem hcm
      rw [List.length_drop, List.length_take] at hj
      have e2 : x.cps.toList[a + 1 + j]? = some c := by
        have h3 : ((x.cps.toList.take p).drop (a + 1))[j]? = some c := by rw [List.getElem?_eq_getElem (by rw [List.length_drop, List.length_take]; omega), e]
        rw [List.getElem?_drop, List.getElem?_take, if_pos (by omega)] at h3
        exact h3
      cases hn : notNl c with
      | true => rfl
      | false =>
        have : c = 10 := by simpa [notNl] using hn
        subst this
        have hA : At x nl p (a + 1 + j) := (at_nl x p _ h).mpr ⟨by omega, e2⟩
        exact absurd hA (kn _ (mem _ hA) (by omega))
    have hlen : ((x.cps.toList.take p).drop (a + 1)).length = p - a - 1 := by
      rw [List.length_drop, List.length_take, Array.length_toList]
      have : x.cps.size = x.length := rfl
      omega
    have htw : (x.cps.toList.take p).reverse.takeWhile notNl = ((x.cps.toList.take p).drop (a + 1)).reverse := by
      conv => lhs; rw [hsplit]
      rw [List.reverse_append, List.reverse_cons, List.append_assoc, List.takeWhile_append_of_pos (fun c hcm => hall c (List.mem_reverse.mp hcm))]
      simp [notNl]
    rw [htw, List.length_reverse, hlen]
    omega
theorem col_first (x : Str) (p : Nat) (h : p ≤ x.length) (hc : linesBefore x p = 0) : colOf x p = p + 1 := by
  unfold colOf
  have : (x.cps.toList.take p).reverse.takeWhile notNl = (x.cps.toList.take p).reverse := by
    have key : ∀ c ∈ (x.cps.toList.take p).reverse, notNl c = true := ?_
    · have := List.takeWhile_append_of_pos (l₂ := []) key
      simpa using this
    intro c hm
    cases hn : notNl c with
    | true => rfl
    | false =>
      have : c = 10 := by simpa [notNl] using hn
      subst this
      exact absurd (List.mem_reverse.mp hm) (List.count_eq_zero.mp hc)
  rw [this, List.length_reverse, List.length_take, Array.length_toList]
  have : x.cps.size = x.length := rfl
  omega
end
section
open PySem PySem.W PyProof.Rows PySem.Calls PySem.Builtin PySem.Builtin.Str PySem.StrLaws
set_option maxRecDepth 100000
def IsFn (a : Addr) (h : Heap) : Prop := ∃ o fd, h.get? a = some o ∧ o.data = .func fd
theorem IsFn.keep {F : List Addr} {h h' : Heap} {a : Addr} (x : IsFn a h) (k : Keep F h h') (q : a ≠ 88) : IsFn a h' :=
  let ⟨o, fd, e, d⟩ := x; let ⟨o', e', _, d', _⟩ := k.at e q; ⟨o', fd, e', d'.trans d⟩
theorem Inv.isFn {w : World} {mg mb : Str → Option Value} {h : Heap} (I : Inv w mg mb h) {i : Nat} {a c : Addr} (q : (i, a, c) ∈ fns) : IsFn a h := let ⟨o, _, e, d, _⟩ := I.fn _ q; ⟨o, _, e, d⟩
theorem looks_fn {M : Model} {a : Addr} (h : Heap) (x : IsFn a h) : ∃ k, (k = Keeper.frame ∨ k = Keeper.machine ∨ k = Keeper.boundFrame) ∧ Looks M h (keeperOf (.ref a)) k := by
  obtain ⟨o, fd, e, d⟩ := x
  refine ⟨.frame, .inl rfl, fun A Q E s k q => ?_⟩
  unfold keeperOf
  refine wpAny_bind (wpAny_load (k _ _ e) ?_)
  rw [d]
  exact wpAny_pure q

section
variable {w : World} {M : Model} {A : Around} {E : Value → Shared → Prop} {s : Shared} {env : Env}
theorem callF {pos : Pos} {a : Addr} {e : Expr} {rest : List Expr} {Q : Value → Shared → Prop}
    (h : wpAny M A (spliced (backTo pos (starEach (e :: rest) env))) (fun vs s₁ => IsFn a s₁.heap ∧ wpAny M A (call (.ref a) vs) Q E s₁) E s)
    (he : starEach (e :: rest) env = (false, eval e env) :: starEach rest env := by rfl) (hplain : ((backTo pos (starEach (e :: rest) env)).any (·.1) || ([] : List (Option Str × Sem Value)).any (·.1.isNone)) = false := by rfl) :
    wpAny M A (callWith pos (.ref a) [] (backTo pos (starEach (e :: rest) env)) []) Q E s := by
  refine callWith_of (P := IsFn a) hplain (looks_fn (a := a)) ?_
  rw [he] at h ⊢
  exact evalArgs_plain h
theorem callFK {pos : Pos} {a : Addr} {e : Expr} {rest : List Expr} {kws : List Keyword} {Q : Value → Shared → Prop}
    (hall : (backToKw pos (keywordEach kws env)).all (·.1.isSome) = true)
    (h : wpAny M A (spliced (backTo pos (starEach (e :: rest) env))) (fun vs s₁ => wpAny M A (evalAll ((backToKw pos (keywordEach kws env)).map (·.2)))
      (fun ks s₂ => IsFn a s₂.heap ∧ wpAny M A (call (.ref a) vs (((backToKw pos (keywordEach kws env)).filterMap (·.1)).zip ks)) Q E s₂) E s₁) E s)
    (hplain : ((backTo pos (starEach (e :: rest) env)).any (·.1) || (backToKw pos (keywordEach kws env)).any (·.1.isNone)) = false := by rfl) (he : starEach (e :: rest) env = (false, eval e env) :: starEach rest env := by rfl) :
    wpAny M A (callWith pos (.ref a) [] (backTo pos (starEach (e :: rest) env)) (backToKw pos (keywordEach kws env))) Q E s :=
  callWith_of (P := IsFn a) hplain (looks_fn (a := a)) (evalArgs_kw2 hall h he)
/-- a method of a value of a built-in type -/
theorem callM {pos : Pos} {id : String} {first : List Value} {e : Expr} {rest : List Expr} {Q : Value → Shared → Prop}
    (h : wpAny M A (spliced (backTo pos (starEach (e :: rest) env))) (fun vs s₁ => wpAny M A (call (.builtin id) (first ++ vs)) Q E s₁) E s)
    (he : starEach (e :: rest) env = (false, eval e env) :: starEach rest env := by rfl) (hplain : (backTo pos (starEach rest env)).any (·.1) = false := by rfl) :
    wpAny M A (callWith pos (.builtin id) first (backTo pos (starEach (e :: rest) env)) []) Q E s := by
  rw [he] at h ⊢
  exact callWith_builtin (by show (false || (backTo pos (starEach rest env)).any (·.1)) = false; rw [hplain]; rfl) (evalArgs_plain h)
end

section
variable {w : World} {A : Around} {E : Value → Shared → Prop} {s : Shared} {x y : Str} {t u v v' : Tok}
theorem fromIndex_nat (len p : Nat) : fromIndex len (p : Int) = p := by unfold fromIndex; rw [if_neg (by omega)]; omega
theorem gives_count4 (x y : Str) (p : Nat) (t u v v' : Tok) : Gives («str.count» ⟨[.str x t, .str y u, .int 0 v, .int (p : Int) v'], []⟩) (.int (occurrences x y 0 (min p x.length) (x.length + 1)).length) := by
  show Gives (retInt (occurrences x y (fromIndex x.length 0) (min (fromIndex x.length (p : Int)) x.length) (x.length + 1)).length) _
  rw [fromIndex_nat, show fromIndex x.length 0 = 0 from fromIndex_nat _ 0]
  exact .of_eq rfl
theorem gives_rindex4 (x y : Str) (p i : Nat) (t u v v' : Tok) (h : lastOccurrence x y 0 (min p x.length) = some i) : Gives («str.rindex» ⟨[.str x t, .str y u, .int 0 v, .int (p : Int) v'], []⟩) (.int i) := by
  show Gives (match lastOccurrence x y (fromIndex x.length 0) (min (fromIndex x.length (p : Int)) x.length) with | some i => retInt i | none => (do rule "str.rindex.not-found"; raiseError "ValueError" "substring not found")) _
  rw [fromIndex_nat, show fromIndex x.length 0 = 0 from fromIndex_nat _ 0, h]
  exact .of_eq rfl
theorem gives_index3 (x y : Str) (p i : Nat) (r : List Nat) (t u v : Tok) (h : occurrences x y p x.length 1 = i :: r) : Gives («str.index» ⟨[.str x t, .str y u, .int (p : Int) v], []⟩) (.int i) := by
  show Gives (match occurrences x y (fromIndex x.length (p : Int)) (min x.length x.length) 1 with | i :: _ => retInt i | [] => (do rule "str.index.not-found"; raiseError "ValueError" "substring not found")) _
  rw [fromIndex_nat, Nat.min_self, h]
  exact .of_eq rfl
theorem raises_index3 (x y : Str) (p : Nat) (t u v : Tok) (h : occurrences x y p x.length 1 = []) : Meets («str.index» ⟨[.str x t, .str y u, .int (p : Int) v], []⟩) (raisesNew "ValueError") := by
  intro prog w A R s hS
  show wpAny _ _ (match occurrences x y (fromIndex x.length (p : Int)) (min x.length x.length) 1 with | i :: _ => retInt i | [] => _) _ _ s
  rw [fromIndex_nat, Nat.min_self, h]
  first
    | exact wpAny_bind (wpAny_rule (by exact_raiseError plainExc_ValueError hS.1 hS.2))
    | exact wpAny_bind (wpAny_rule (wpAny_bind (by exact_raiseError plainExc_ValueError hS.1 hS.2)))

theorem call_count4 {p : Nat} {Q : Value → Shared → Prop} (hp : p ≤ x.length) (h : Q (.int ((linesBefore x p : Nat) : Int) s.toks) { s with toks := s.toks + 1 }) :
    wpAny (model P0 w) A (call (.builtin "str.count") [.str x t, .str nl u, .int 0 v, .int (p : Int) v']) Q E s := by
  refine call_gives F.slot_str_count (typeIs_str _ _ _) F.entry_str_count (F.args_str_count_4 _ _ _ _) (gives_count4 x nl p t u v v') ?_
  rw [Nat.min_eq_left hp, occ_count x p hp]
  exact h
theorem call_rindex4 {p : Nat} {Q : Value → Shared → Prop} (hp : p ≤ x.length) (hc : linesBefore x p ≠ 0) (h : Q (.int ((p : Int) - (colOf x p : Nat)) s.toks) { s with toks := s.toks + 1 }) :
    wpAny (model P0 w) A (call (.builtin "str.rindex") [.str x t, .str nl u, .int 0 v, .int (p : Int) v']) Q E s := by
  obtain ⟨i, e, h1, h2⟩ := last_nl x p hp hc
  refine call_gives F.slot_str_rindex (typeIs_str _ _ _) F.entry_str_rindex (F.args_str_rindex_4 _ _ _ _) (gives_rindex4 x nl p i t u v v' (by rw [Nat.min_eq_left hp]; exact e)) ?_
  have : (i : Int) = (p : Int) - (colOf x p : Nat) := by omega
  rw [← this] at h
  exact h
theorem call_index3 {p : Nat} {Q : Value → Shared → Prop} (hA : A.handled = none) (hp : p ≤ x.length)
    (h0 : p + runOf notNl x p = x.length → ∀ h' tk e, Heap.NewExc s.heap h' e "ValueError" → E (.ref e) { s with heap := h', toks := tk })
    (h1 : p + runOf notNl x p < x.length → Q (.int ((p + runOf notNl x p : Nat) : Int) s.toks) { s with toks := s.toks + 1 }) :
    wpAny (model P0 w) A (call (.builtin "str.index") [.str x t, .str nl u, .int (p : Int) v]) Q E s := by
  have hle := runOf_le notNl x p hp
  by_cases hq : p + runOf notNl x p < x.length
  · obtain ⟨r, e⟩ := (occ_nl x p).1 hq
    exact call_gives F.slot_str_index (typeIs_str _ _ _) F.entry_str_index (F.args_str_index_3 _ _ _) (gives_index3 x nl p _ r t u v e) (h1 hq)
  · have he : p + runOf notNl x p = x.length := by omega
    exact call_meets F.slot_str_index (typeIs_str _ _ _) F.entry_str_index (F.args_str_index_3 _ _ _) (raises_index3 x nl p t u v ((occ_nl x p).2 he)) ⟨hA, h0 he⟩
end
end
section
open PySem PySem.W PyProof.Rows PySem.Calls
local macro_rules | `(tactic| walk_at "e") => `(tactic| first
  | ((with_reducible show wpAny _ _ (isTrue (Expr.Compare _ [_] [_] _) _ _) _ _ _); refine wpAny_isTrue_Compare1 ?_)
  | ((with_reducible show wpAny _ _ (isTrue (Expr.UnaryOp UnaryOp.Not _ _) _ _) _ _ _); refine isTrue_not ?_)
  | ((with_reducible show wpAny _ _ (isTrue (Expr.Name _ _) _ _) _ _ _); refine isTrue_plain ?_)
  | ((with_reducible show wpAny _ _ (isTrue (Expr.Call _ _ _ _) _ _) _ _ _); refine isTrue_plain ?_)
  | ((with_reducible show wpAny _ _ (isTrue (Expr.Constant _ _ _) _ _) _ _ _); refine isTrue_plain ?_)
  | ((with_reducible show wpAny _ _ (eval (Expr.Compare _ [_] [_] _) _) _ _ _); refine wpAny_Compare1 ?_)
  | ((with_reducible show wpAny _ _ (eval (Expr.BinOp _ _ _ _) _) _ _ _); refine wpAny_BinOp ?_)
  | ((with_reducible show wpAny _ _ (eval (Expr.Constant (Const.int _) _ _) _) _ _ _); refine wpAny_Constant_int ?_)
  | ((with_reducible show wpAny _ _ (eval (Expr.Constant (Const.str _) _ _) _) _ _ _); refine Constant_str ?_)
  | ((with_reducible show wpAny _ _ (eval (Expr.Constant _ _ _) _) _ _ _); first | refine wpAny_Constant_none ?_ | refine wpAny_Constant_bool ?_)
  | ((with_reducible show wpAny _ _ (eval (Expr.Name _ _) _) _ _ _); first
      | refine nmG (by assumption) (by first | assumption | exact St.inv (by assumption) (by assumption)) (by rfl) ?_
      | refine nmB (by assumption) (by first | assumption | exact St.inv (by assumption) (by assumption)) (by rfl) ?_
      | refine nm (St.ns (by assumption)) (by first | rfl | assumption) ?_)
  | ((with_reducible show wpAny _ _ (loadName _ _) _ _ _); refine wpAny_loadName_local rfl rfl (St.ns (by assumption)) (by first | rfl | assumption) ?_)
  | ((with_reducible show wpAny _ _ (eval (Expr.Call (Expr.Attribute _ _ _) _ [] _) _) _ _ _); refine MethodCall_ ?_)
  | ((with_reducible show wpAny _ _ (eval (Expr.Call _ _ [] _) _) _ _ _); refine Call_ ?_)
  | ((with_reducible show wpAny _ _ (eval (Expr.Subscript _ (Expr.Name _ _) _) _) _ _ _); refine Subscript_ ?_)
  | ((with_reducible show wpAny _ _ (callWith _ (Value.builtin _) [] _ []) _ _ _); refine PyProof.Rows.callWith_builtin1 ?_)
  | ((with_reducible show wpAny _ _ (callWith _ (Value.builtin _) (_ :: _) _ []) _ _ _); refine callM ?_)
  | ((with_reducible show wpAny _ _ (callWith _ (Value.type _) [] _ []) _ _ _); refine PyProof.Rows.callWith_type1 ?_)
  | ((with_reducible show wpAny _ _ (spliced (backTo _ (starEach (_ :: _) _))) _ _ _); refine args_cons ?_)
  | ((with_reducible show wpAny _ _ (spliced (backTo _ (starEach [] _))) _ _ _); refine args_nil ?_)
  | ((with_reducible show wpAny _ _ (binaryOp Operator.Add (Value.int _ _) (Value.int _ _)) _ _ _); refine add_int ?_)
  | ((with_reducible show wpAny _ _ (binaryOp Operator.Sub (Value.int _ _) (Value.int _ _)) _ _ _); refine sub_int ?_)
  | ((with_reducible show wpAny _ _ (compareOp CmpOp.GtE (Value.int _ _) (Value.int _ _)) _ _ _); refine ge_int ?_)
  | ((with_reducible show wpAny _ _ (compareOp CmpOp.Lt (Value.int _ _) (Value.int _ _)) _ _ _); refine lt_int ?_)
  | ((with_reducible show wpAny _ _ (compareOp CmpOp.Gt (Value.int _ _) (Value.int _ _)) _ _ _); refine gt_int ?_)
  | ((with_reducible show wpAny _ _ (compareOp CmpOp.Eq (Value.int _ _) (Value.int _ _)) _ _ _); refine eq_int ?_)
  | ((with_reducible show wpAny _ _ (compareOp CmpOp.NotEq (Value.int _ _) (Value.int _ _)) _ _ _); refine ne_int ?_)
  | ((with_reducible show wpAny _ _ (truthy (Value.bool _)) _ _ _); refine wpAny_truthy_bool ?_)
  | ((with_reducible show wpAny _ _ (call (Value.builtin "len") [Value.str _ _]) _ _ _); refine P.len_str (by omega) ?_)
  | ((with_reducible show wpAny _ _ (getMethod (Value.str _ _) (Str.ofString "count") _) _ _ _); with_reducible refine GM.count ?_)
  | ((with_reducible show wpAny _ _ (getMethod (Value.str _ _) (Str.ofString "rindex") _) _ _ _); with_reducible refine GM.rindex ?_)
  | ((with_reducible show wpAny _ _ (getMethod (Value.str _ _) (Str.ofString "index") _) _ _ _); with_reducible refine GM.index ?_)
  | ((with_reducible show wpAny _ _ (getMethod (Value.str _ _) (Str.ofString "lstrip") _) _ _ _); with_reducible refine GM.lstrip ?_)
  | ((with_reducible show wpAny _ _ (getMethod (Value.str _ _) (Str.ofString "join") _) _ _ _); with_reducible refine GM.join ?_)
  | ((with_reducible show wpAny _ _ (compareOp CmpOp.Eq (Value.str _ _) (Value.str _ _)) _ _ _); refine P.eq_str ?_)
  | ((with_reducible show wpAny _ _ (compareOp CmpOp.NotEq (Value.str _ _) (Value.str _ _)) _ _ _); refine P.ne_str ?_)
  | ((with_reducible show wpAny _ _ (eval (Expr.IfExp _ _ _ _) _) _ _ _); refine IfExp_ ?_)
  | ((with_reducible show wpAny _ _ (eval (Expr.UnaryOp UnaryOp.USub _ _) _) _ _ _); refine wpAny_UnaryOp ?_)
  | ((with_reducible show wpAny _ _ (unaryOp UnaryOp.USub (Value.int _ _)) _ _ _); refine PyProof.Rows.neg_int ?_)
  | ((with_reducible show wpAny _ _ (eval (Expr.List _ _) _) _ _ _); refine List_ ?_)
  | ((with_reducible show wpAny _ _ (eval (Expr.Tuple _ _ _) _) _ _ _); refine Tuple_ ?_)
  | ((with_reducible show wpAny _ _ (binaryOp Operator.Mult (Value.int _ _) (Value.int _ _)) _ _ _); refine PyProof.Rows.mul_int ?_)
  | ((with_reducible show wpAny _ _ (binaryOp Operator.Mod (Value.int _ _) (Value.int _ _)) _ _ _); refine PyProof.Rows.mod_int (by decide) ?_)
  | ((with_reducible show wpAny _ _ (binaryOp Operator.FloorDiv (Value.int _ _) (Value.int _ _)) _ _ _); refine PyProof.Rows.floordiv_int (by decide) ?_)
  | ((with_reducible show wpAny _ _ (binaryOp Operator.Add (Value.str _ _) (Value.str _ _)) _ _ _); refine PyProof.Rows.add_str ?_ (by decide +kernel); intro _ _)
  | ((with_reducible show wpAny _ _ (call (Value.builtin "chr") [Value.int _ _]) _ _ _); refine chr_of_range (by omega) (by omega) ?_))
local macro_rules | `(tactic| walk_at "m") => `(tactic| first
  | ((with_reducible show wpAny _ _ (execs (_ :: _) _) _ _ _); refine wpAny_execs_cons ?_)
  | ((with_reducible show wpAny _ _ (execs [] _) _ _ _); refine wpAny_execs_nil ?_)
  | ((with_reducible show wpAny _ _ (exec (Stmt.If _ _ _ _) _) _ _ _); refine wpAny_If ?_)
  | ((with_reducible show wpAny _ _ (exec (Stmt.Assign [Expr.Name _ _] _ _) _) _ _ _); refine wpAny_Assign_Name ?_)
  | ((with_reducible show wpAny _ _ (exec (Stmt.AugAssign (Expr.Name _ _) _ _ _) _) _ _ _); refine wpAny_AugAssign_Name ?_)
  | ((with_reducible show wpAny _ _ (exec (Stmt.Pass _) _) _ _ _); refine wpAny_Pass ?_)
  | ((with_reducible show wpAny _ _ (storeName _ _ _) _ _ _); refine st_store (by assumption) ?_; intro _ _)
  | walk_at "e")
section
open PySem PySem.W PyProof.Rows PySem.Calls PySem.Builtin PySem.Builtin.Str PySem.StrLaws
set_option maxRecDepth 100000
def inner : Stmt := (fnBody (stmtAt 11)).getD 0 (.Pass ⟨0, 0, 0, 0⟩)
def crFd (pm : Value) (c : Addr) : FuncData :=
  { name := fnName inner, qualname := "suffixed_err.<locals>.coord_repr", params := fnParams inner, body := .stmts (fnBody inner), scope := fnScope inner, globals := 3, closure := [], defaults := .none, kwdefaults := .none, pyModule := pm, code := .ref c, builtins := 0 }
def coordText (x : Str) (p : Nat) : Str := Str.empty ++ "line " ++ toString ((linesBefore x p : Nat) + 1 : Int) ++ ", column " ++ toString ((colOf x p : Nat) : Int)

theorem numLen {a : Int} (h : a.natAbs < 10 ^ 9) : (Str.ofString (toString a)).length ≤ 10 := by
  rw [PySem.ofString_length]; exact int_text_length_le10 (by decide) h
theorem lines_le (x : Str) (p : Nat) : linesBefore x p ≤ p := Nat.le_trans (List.count_le_length) (List.length_take_le ..)
theorem col_le (x : Str) (p : Nat) : colOf x p ≤ p + 1 := by
  unfold colOf
  have h1 : ((x.cps.toList.take p).reverse.takeWhile notNl).length ≤ (x.cps.toList.take p).reverse.length := List.Sublist.length_le (List.takeWhile_sublist _)
  rw [List.length_reverse] at h1
  have h2 := List.length_take_le p x.cps.toList
  omega
theorem log_small {a : Int} (h : a.natAbs < 10 ^ 9) : a.natAbs.log2 < 1920 := by
  rcases Nat.eq_zero_or_pos a.natAbs with h0 | h0
  · rw [h0]; decide
  · exact (Nat.log2_lt (Nat.ne_of_gt h0)).mpr (Nat.lt_trans h (by decide +kernel))

section
variable {w : World} {A : Around} {E : Value → Shared → Prop} {s : Shared} {mg mb : Str → Option Value} {outer : List Env}
def ret3 : Stmt := (fnBody inner).getD 3 (.Pass ⟨0, 0, 0, 0⟩)
theorem coord_fin {p : Nat} {x : Str} {L a c : Addr} {pm : Value} {m : Str → Option Value} {u1 : Tok} {Q : Flow → Shared → Prop} (hp : p < x.length) (hx : x.length ≤ 100000) (hn : s.heap.Ns L m)
    (m1 : m "line" = some (.int ((linesBefore x p : Nat) + 1 : Int) u1)) (m2 : ∃ u2, m "column" = some (.int ((colOf x p : Nat) : Int) u2))
    (h : ∀ tk u', Q (.ret (.str (coordText x p) u')) { s with toks := tk }) : wpAny (model P0 w) A (exec ret3 (envFd (crFd pm c) L a)) Q E s := by
  obtain ⟨u2, m2⟩ := m2
  have hlb := lines_le x p
  have hcl := col_le x p
  have n1 : ((linesBefore x p : Nat) + 1 : Int).natAbs < 10 ^ 9 := by omega
  have n2 : ((colOf x p : Nat) : Int).natAbs < 10 ^ 9 := by omega
  have l1 := numLen n1
  have l2 := numLen n2
  refine wpAny_Return_some (wpAny_JoinedStr ?_)
  refine Constant_str ⟨_, _, rfl, by decide +kernel, ?_⟩
  refine wpAny_FormattedValue_plain (nm hn m1 (wpAny_formatField_int (log_small n1) ⟨_, _, rfl, ?_, ?_⟩))
  · rw [sizeLine_eq, Str.length_append]
    have : (Str.empty ++ Str.ofString "line ").length = 5 := by decide +kernel
    omega
  refine Constant_str ⟨_, _, rfl, ?_, ?_⟩
  · rw [sizeLine_eq, Str.length_append, Str.length_append]
    have : (Str.empty ++ Str.ofString "line ").length = 5 := by decide +kernel
    have : (Str.ofString ", column ").length = 9 := by decide +kernel
    omega
  have hlen : (Str.empty ++ Str.ofString "line " ++ Str.ofString (toString ((linesBefore x p : Nat) + 1 : Int)) ++ Str.ofString ", column " ++ Str.ofString (toString ((colOf x p : Nat) : Int))).length ≤ sizeLine := by
    rw [sizeLine_eq, Str.length_append, Str.length_append, Str.length_append]
    have : (Str.empty ++ Str.ofString "line ").length = 5 := by decide +kernel
    have : (Str.ofString ", column ").length = 9 := by decide +kernel
    omega
  refine wpAny_FormattedValue_plain (nm hn m2 (wpAny_formatField_int (log_small n2) ⟨_, _, rfl, hlen, ⟨hlen, ?_⟩⟩))
  exact h _ _

set_option maxHeartbeats 4000000 in
theorem coord_spec {n p : Nat} {x : Str} {t u : Tok} {a c : Addr} {o : Obj} {pm : Value} {Q : Value → Shared → Prop} (G : Gl mg mb) (R : Rm (n + 1) A outer) (I : Inv w mg mb s.heap) (hp : p < x.length) (hx : x.length ≤ 100000)
    (ho : s.heap.get? a = some o) (hd : o.data = .func (crFd pm c)) (hc : s.heap.CodeRec (.ref c) "suffixed_err.<locals>.coord_repr")
    (h : ∀ h' tk u', Keep (frs outer) s.heap h' → Q (.str (coordText x p) u') { s with heap := h', toks := tk }) :
    wpAny (model P0 w) A (call (.ref a) [.str x t, .int p u]) Q E s := by
  refine enterFd (binds := [("src", .str x t), ("pos", .int p u)]) R I ho hd hc rfl (by rfl) (by exact locs rfl) (fun L h₁ hL S R' => ?_) (hcell := by show ∀ x ∈ (fnScope inner).names, x.2 ≠ .cell; decide)
  refine wpAny_execs_cons ?_
  repeat walk_at "m"
  refine PySem.W.ite_neg (by simp; omega) ?_
  repeat walk_at "m"
  refine call_count4 (by omega) ?_
  repeat walk_at "m"
  have hlb := lines_le x p
  have hcl := col_le x p
  by_cases hl : linesBefore x p = 0
  · refine PySem.W.ite_pos (by rw [hl]; decide) ?_
    repeat walk_at "m"
    refine coord_fin (x := x) (p := p) hp hx (St.ns (by assumption)) rfl ?_ fun tk u' => h _ _ _ (St.keep (by assumption))
    have e : ((p : Int) + 1) = ((colOf x p : Nat) : Int) := by rw [col_first x p (by omega) hl]; rfl
    exact ⟨_, congrArg (fun z : Int => some (Value.int z _)) e⟩
  · refine PySem.W.ite_neg (by simp; omega) ?_
    repeat walk_at "m"
    refine call_rindex4 (by omega) hl ?_
    repeat walk_at "m"
    refine coord_fin (x := x) (p := p) hp hx (St.ns (by assumption)) rfl ?_ fun tk u' => h _ _ _ (St.keep (by assumption))
    exact ⟨_, (congrArg (fun z : Int => some (Value.int z _)) (by omega : (p : Int) - ((p : Int) - (colOf x p : Nat)) = (colOf x p : Nat)))⟩
end
end
section
open PySem PySem.W PyProof.Rows PySem.Calls PySem.Builtin PySem.Builtin.Str PySem.StrLaws
set_option maxRecDepth 100000
theorem Keep.ext88 {F : List Addr} {h₀ h h' : Heap} (x : Keep F h₀ h) (y : Heap.ExtBut 88 h h') (t : Tab h') : Keep F h₀ h' :=
  ⟨fun b o e q => ⟨fun f => y b o q ((x.1 b o e q).1 f), let ⟨sl, e1⟩ := (x.1 b o e q).2; ⟨sl, y b _ q e1⟩⟩, fun _ => t⟩
theorem Tab.at {h : Heap} (T : Tab h) : ∃ o, h.get? 88 = some o := let ⟨_, _, t, _⟩ := T; ⟨_, t.2⟩
theorem Keep.none {F : List Addr} {h h' : Heap} (x : Keep F h h') (T : Tab h) {e : Addr} (n : h'.get? e = none) : h.get? e = none := by
  cases hq : h.get? e with
  | none => rfl
  | some o =>
    by_cases q : e = 88
    · subst q
      obtain ⟨o', e'⟩ := (x.2 T).at
      rw [n] at e'; cases e'
    · obtain ⟨o', e', _⟩ := x.at hq q
      rw [n] at e'; cases e'
section
variable {w : World} {A : Around} {E : Value → Shared → Prop} {s : Shared} {mg mb : Str → Option Value} {outer : List Env}

theorem fn_inner {F : List Addr} {h₀ : Heap} {L : Addr} {m : Str → Option Value} {Q : Value → Shared → Prop} (G : Gl mg mb) (I : Inv w mg mb h₀) (T : Tab s.heap) (S : St F h₀ L m s.heap)
    (h : ∀ h' tk c, St F h₀ L m h' → h'.get? h'.objs.size = none → Tab h' → h'.CodeRec (.ref c) "suffixed_err.<locals>.coord_repr" →
      Q (.ref h'.objs.size) { s with heap := h'.push { cls := .type "function", data := .func (crFd ((mg "__name__").getD .none) c) }, toks := tk }) :
    wpAny (model P0 w) A (makeFunction (fnName inner) "suffixed_err.<locals>.coord_repr" (fnParams inner) (.stmts (fnBody inner)) (fnScope inner) (ev 11 L 93 92) [] [] [] ⟨45, 4, 53, 46⟩ 45) Q E s := by
  have hI := S.inv I
  have hfree : ∀ x ∈ (fnScope inner).names, x.2 ≠ .free := by decide
  have hclo : closureFor (fnScope inner) (ev 11 L 93 92) = pure [] := closureFor_none hfree
  have hdoc : docOf (fnBody inner) = none := rfl
  obtain ⟨ob, hbo, hcls, hdict, hdata⟩ := hI.bm
  have hbn := G.gl "__builtins__" _ rfl
  simp only [makeFunction, List.zip_nil_right, List.filterMap_nil, List.isEmpty_nil, if_true, pure_bind, hclo, hdoc]
  obtain ⟨ps, hi, ht, hc⟩ := id T
  rcases hc with rfl | ⟨c, oc, vs, t, rfl, g1, g2, g3, g4⟩
  · refine wpAny_bind (wpAny_functionCodeX (c := 92) (P := 88) rfl hi ht rfl fun c' h' tk hx hge hlt hok hrec htab htb => ?_)
    have T' : Tab h' := by
      obtain ⟨P', _, _, ⟨oc, vs, e1, e2, e3, _⟩, _⟩ := htb
      obtain ⟨c₂, o₂, vs₂, t₂, e₂, g₂, d₂, r₂⟩ := hrec
      cases e₂
      obtain rfl : oc = o₂ := Option.some.inj (e1.symm.trans g₂)
      exact ⟨_, hok, htab, .inr ⟨c', oc, vs₂, t₂, rfl, e1, e2, d₂, r₂⟩⟩
    have S' : St F h₀ L m h' := ⟨S.ns.extBut hx S.ne, S.keep.ext88 hx T', S.new, S.ne⟩
    have hI' := S'.inv I
    obtain ⟨ob', hbo', hcls', hdict', hdata'⟩ := hI'.bm
    refine wpAny_bind (wpAny_builtinsFor (s := { s with heap := h', toks := tk }) (m := mg) hI'.g hbn (by decide) hbo' hcls' hdict' hdata' ?_)
    refine wpAny_bind (wpAny_nsGet (s := { s with heap := h', toks := tk }) (m := mg) hI'.g ?_)
    simp only [newObj]
    exact wpAny_bind (wpAny_alloc (wpAny_pure (h h' tk c' S' (Heap.get?_none_of_le (Nat.le_refl _)) T' hrec)))
  · refine wpAny_bind (wpAny_functionCode_hit (c := 92) (P := 88) rfl hi rfl ?_)
    refine wpAny_bind (wpAny_builtinsFor (m := mg) hI.g hbn (by decide) hbo hcls hdict hdata ?_)
    refine wpAny_bind (wpAny_nsGet (m := mg) hI.g ?_)
    simp only [newObj]
    exact wpAny_bind (wpAny_alloc (wpAny_pure (h s.heap s.toks c S (Heap.get?_none_of_le (Nat.le_refl _)) T ⟨c, oc, vs, t, rfl, g1, g3, g4⟩)))

theorem exec_inner {F : List Addr} {h₀ : Heap} {L : Addr} {m : Str → Option Value} {Q : Flow → Shared → Prop} (G : Gl mg mb) (I : Inv w mg mb h₀) (T : Tab s.heap) (S : St F h₀ L m s.heap)
    (h : ∀ h' tk fa c pm o, St F h₀ L (fun y => if y = "coord_repr" then some (.ref fa) else m y) h' → h'.get? fa = some o → o.data = .func (crFd pm c) → fa ≠ 88 → h'.CodeRec (.ref c) "suffixed_err.<locals>.coord_repr" →
      Q .next { s with heap := h', toks := tk }) :
    wpAny (model P0 w) A (exec inner (ev 11 L 93 92)) Q E s := by
  show wpAny (model P0 w) A (do
    standAt ⟨45, 4, 53, 46⟩
    let f ← holding [] (makeFunction (fnName inner) "suffixed_err.<locals>.coord_repr" (fnParams inner) (.stmts (fnBody inner)) (fnScope inner) (ev 11 L 93 92) [] [] [] ⟨45, 4, 53, 46⟩ 45)
    standAt ⟨45, 4, 53, 46⟩
    bindName (ev 11 L 93 92) "coord_repr" f
    pure .next) Q E s
  refine wpAny_bind (wpAny_standAt (wpAny_bind (wpAny_holding (fn_inner G I T S fun h' tk c S' hn T' hrec => wpAny_bind (wpAny_standAt (wpAny_bind (wpAny_bindName ?_)))))))
  have hL : L ≠ h'.objs.size := by
    obtain ⟨o, _, _, e, _⟩ := S'.ns
    exact Nat.ne_of_lt (Heap.lt_size e)
  have S₂ : St F h₀ L m (h'.push { cls := .type "function", data := .func (crFd ((mg "__name__").getD .none) c) }) := S'.keeps fun b o e => Heap.get?_push_of_some _ e
  refine wpAny_storeName_local (s := { s with heap := h'.push { cls := .type "function", data := .func (crFd ((mg "__name__").getD .none) c) }, toks := tk }) (env := ev 11 L 93 92) rfl S₂.ns (fun h₃ hn₃ hs₃ => wpAny_pure ?_) rfl
  have S₃ := S₂.store hn₃ hs₃
  refine h h₃ _ h'.objs.size c _ _ S₃ ((hs₃.2 _ (Ne.symm hL)).trans (Heap.get?_push_size _ rfl)) rfl ?_ ?_
  · exact Nat.ne_of_gt (Nat.lt_trans (by decide) (S'.inv I).size)
  · obtain ⟨c₂, o₂, vs₂, t₂, e₂, g₂, d₂, r₂⟩ := hrec
    cases e₂
    have hcL : c ≠ L := fun q => by
      obtain ⟨o, es, ep, e, d, _⟩ := S'.ns
      subst q
      obtain rfl : o = o₂ := Option.some.inj (e.symm.trans g₂)
      rw [d] at d₂
      cases d₂
    exact ⟨c, o₂, vs₂, t₂, rfl, (hs₃.2 _ hcL).trans (Heap.get?_push_of_some _ g₂), d₂, r₂⟩

theorem looks_cls {M : Model} (h : Heap) (x : ∃ k0 k1 k2 k3 k5, h.get? 55 = some (clsO k0 k1 k2 k3 k5)) : ∃ k, (k = Keeper.frame ∨ k = Keeper.machine ∨ k = Keeper.boundFrame) ∧ Looks M h (keeperOf (.ref 55)) k := by
  obtain ⟨k0, k1, k2, k3, k5, e⟩ := x
  refine ⟨.machine, .inr (.inl rfl), fun A Q E s k q => ?_⟩
  obtain ⟨hp, g, d, t, os⟩ := s
  exact wpAny_keeperOf_exc (k _ _ e) q
theorem callC {M : Model} {env : Env} {pos : Pos} {e : Expr} {rest : List Expr} {Q : Value → Shared → Prop}
    (h : wpAny M A (spliced (backTo pos (starEach (e :: rest) env))) (fun vs s₁ => (∃ k0 k1 k2 k3 k5, s₁.heap.get? 55 = some (clsO k0 k1 k2 k3 k5)) ∧ wpAny M A (call (.ref 55) vs) Q E s₁) E s)
    (he : starEach (e :: rest) env = (false, eval e env) :: starEach rest env := by rfl) (hplain : ((backTo pos (starEach (e :: rest) env)).any (·.1) || ([] : List (Option Str × Sem Value)).any (·.1.isNone)) = false := by rfl) :
    wpAny M A (callWith pos (.ref 55) [] (backTo pos (starEach (e :: rest) env)) []) Q E s := by
  refine callWith_of (P := fun h => ∃ k0 k1 k2 k3 k5, h.get? 55 = some (clsO k0 k1 k2 k3 k5)) hplain looks_cls ?_
  rw [he] at h ⊢
  exact evalArgs_plain h
theorem call_cls {v : Value} {Q : Value → Shared → Prop} (I : Inv w mg mb s.heap) (h : ∀ h' e, Heap.MadeExcOf s.heap h' e (.ref 55) [v] → Q (.ref e) { s with heap := h' }) :
    wpAny (model P0 w) A (call (.ref 55) [v]) Q E s := by
  obtain ⟨k0, k1, k2, k3, k5, e⟩ := I.cls
  obtain ⟨mN, hn, h1, _⟩ := I.cns
  obtain ⟨hp, g, d, t, os⟩ := s
  exact wpAny_call_exc_sub F.excBase_ValueError e hn h1 h

def errText (msg x : Str) (p : Nat) : Str := Str.empty ++ msg ++ " (at " ++ coordText x p ++ ")"
theorem coordLen (x : Str) (p : Nat) (hp : p < x.length) (hx : x.length ≤ 100000) : (coordText x p).length ≤ 40 := by
  have hlb := lines_le x p
  have hcl := col_le x p
  have l1 := numLen (a := ((linesBefore x p : Nat) + 1 : Int)) (by omega)
  have l2 := numLen (a := ((colOf x p : Nat) : Int)) (by omega)
  unfold coordText
  rw [Str.length_append, Str.length_append, Str.length_append]
  have : (Str.empty ++ Str.ofString "line ").length = 5 := by decide +kernel
  have : (Str.ofString ", column ").length = 9 := by decide +kernel
  omega

set_option maxHeartbeats 4000000 in
theorem suffixed_spec {n p : Nat} {x msg : Str} {t u v : Tok} {Q : Value → Shared → Prop} (G : Gl mg mb) (R : Rm (n + 2) A outer) (I : Inv w mg mb s.heap) (T : Tab s.heap) (hp : p < x.length) (hx : x.length ≤ 100000) (hm : msg.length ≤ 100)
    (h : ∀ h' tk e t0 tt, Keep (frs outer) s.heap h' → s.heap.get? e = none → h'.get? e = some { cls := .ref 55, data := .fields #[.ref t0, .none, .none, .none, .bool false, .none] } → s.heap.get? t0 = none →
      h'.get? t0 = some { cls := .type "tuple", data := .seq #[.str (errText msg x p) tt] } → Q (.ref e) { s with heap := h', toks := tk }) :
    wpAny (model P0 w) A (call (.ref 93) [.str x t, .int p u, .str msg v]) Q E s := by
  refine enter (i := 11) (c := 92) (binds := [("src", .str x t), ("pos", .int p u), ("msg", .str msg v)]) R I (by decide) (fun pm => by rfl) (by exact locs rfl) fun L h₁ hL S R' => ?_
  refine wpAny_execs_cons (exec_inner (s := { s with heap := h₁, toks := _ }) G I (S.keep.2 T) S fun h₂ tk fa c pm o S₂ e₂ d₂ hfa hrec => ?_)
  refine wpAny_execs_cons (wpAny_Return_some ?_)
  repeat walk_at "m"
  refine callC (args_cons (wpAny_JoinedStr ?_))
  have l1 := coordLen x p hp hx
  have l2 : (Str.ofString " (at ").length = 5 := by decide +kernel
  have l3 : (Str.ofString ")").length = 1 := by decide +kernel
  have l0 : Str.empty.length = 0 := rfl
  have lt : (errText msg x p).length ≤ sizeLine := by
    unfold errText
    rw [sizeLine_eq, Str.length_append, Str.length_append, Str.length_append, Str.length_append]
    omega
  refine wpAny_FormattedValue_plain (nm S₂.ns rfl (formatField_str (fun t1 tk1 => ⟨_, _, rfl, ?_, ?_⟩) ?_))
  · rw [sizeLine_eq, Str.length_append]; omega
  · refine Constant_str ⟨_, _, rfl, ?_, ?_⟩
    · rw [sizeLine_eq, Str.length_append, Str.length_append]; omega
    refine wpAny_FormattedValue_plain (Call_ (nm S₂.ns rfl (callF (args_cons (nm S₂.ns rfl (args_cons (nm S₂.ns rfl (args_nil ⟨⟨o, _, e₂, d₂⟩, ?_⟩))))))))
    refine coord_spec (pm := pm) (c := c) (o := o) G R' (S₂.inv I) hp hx e₂ d₂ hrec fun h₃ tk₃ u₃ k₃ => formatField_str (fun t4 tk4 => ⟨_, _, rfl, ?_, ?_⟩) ?_
    · rw [sizeLine_eq, Str.length_append, Str.length_append, Str.length_append]; omega
    · refine Constant_str ⟨_, _, rfl, lt, ⟨lt, ?_⟩⟩
      have S₃ := S₂.on' (L := L) k₃
      refine args_nil ⟨(S₃.inv I).cls, call_cls (S₃.inv I) fun h₄ e hm => ?_⟩
      obtain ⟨t0, he, ht0, htt⟩ := hm.there
      refine h h₄ _ e t0 _ (S₃.keeps hm.keeps).keep ?_ he ?_ htt
      · exact S₃.keep.none T hm.new
      · exact S₃.keep.none T ht0
    · rw [sizeLine_eq]; omega
  · rw [sizeLine_eq]; omega
end
end
section
open PySem PySem.W PyProof.Rows PySem.Calls PySem.Builtin PySem.Builtin.Str PySem.StrLaws
set_option maxRecDepth 100000
/-- a TOMLDecodeError with these words flies over the frames l, since the heap h -/
def Fly (h : Heap) (l : List Env) (e : Addr) (text : Str) (h' : Heap) : Prop :=
  ∃ base t0 tt, Heap.FlyingW base l e (.ref 55) (.ref t0) h' ∧ h'.TupAt t0 [.str text tt] ∧ (∀ b o, h.get? b = some o → b ≠ 88 → b ∉ frs l → base.get? b = some o) ∧ (Tab h → Tab base) ∧
    (∀ b ∈ frs l, ∀ o, h.get? b = some o → ∃ sl, h'.get? b = some { o with slots := sl }) ∧ (h.get? e = none)

theorem Fly.keep {h h' : Heap} {l : List Env} {e : Addr} {text : Str} (x : Fly h l e text h') (lo : ∀ b ∈ frs l, 131 < b) : Keep (frs l) h h' := by
  obtain ⟨base, t0, tt, ⟨f1, _, _, _⟩, _, k1, k2, k3, _⟩ := x
  refine ⟨fun b o e q => ?_, fun t => (k2 t).of fun b o _ e _ _ => f1 b o e⟩
  by_cases hb : b ∈ frs l
  · exact ⟨fun z => z.elim (fun z => absurd hb z) fun z => absurd z (Nat.not_lt.mpr (lo b hb)), k3 b hb o e⟩
  · have := f1 b o (k1 b o e q hb)
    exact ⟨fun _ => this, o.slots, this⟩

section
variable {M : Model} {A : Around} {E : Value → Shared → Prop} {s : Shared}
/-- raised in the frame at hand: it leaves it -/
theorem fly_first {h₀ : Heap} {env : Env} {outer : List Env} {L e t0 : Addr} {m : Str → Option Value} {text : Str} {tt : Tok} {Q : Unit → Shared → Prop} (hfr : A.frames = some (env :: outer)) (hf : env.frame = some L)
    (S : St (frs outer) h₀ L m s.heap) (hF : s.heap.FunFrames {} (env :: outer)) (T : Tab h₀)
    (he : s.heap.get? e = some { cls := .ref 55, data := .fields #[.ref t0, .none, .none, .none, .bool false, .none] }) (hen : h₀.get? e = none)
    (ht : s.heap.get? t0 = some { cls := .type "tuple", data := .seq #[.str text tt] })
    (k : ∀ h', Fly h₀ outer e text h' → Q () { s with heap := h' }) : wpAny M A (leaving env (.ref e)) Q E s := by
  have hel : e ∉ frs (env :: outer) := fun q => frames_data hF e q _ he _ rfl
  have fw : s.heap.FunFrames (wo (e :: frs (env :: outer)) s.heap) (env :: outer) := by
    have key : ∀ l', s.heap.FunFrames {} l' → (∀ b ∈ frs l', b ∈ e :: frs (env :: outer)) → s.heap.FunFrames (wo (e :: frs (env :: outer)) s.heap) l' := by
      intro l'
      induction l' with
      | nil => intro _ _; trivial
      | cons env' r ih =>
        intro x s'
        obtain ⟨a, ⟨L', o, b, c, d, e'⟩, f⟩ := x
        rw [frs_cons b] at s'
        exact ⟨a, ⟨L', o, b, by rw [wo_get, if_pos (s' L' (List.mem_cons_self ..))], d, e'⟩, ih f fun q hq => s' q (List.mem_cons_of_mem _ hq)⟩
    exact key _ hF fun b hb => List.mem_cons_of_mem _ hb
  have hL : s.heap.get? L ≠ none := by
    obtain ⟨o, _, _, e', _⟩ := S.ns
    rw [e']; nofun
  refine wpAny_leaving_firstW (a0 := .ref t0) hfr fw hf he (wo_stays _ _) (by rw [wo_get, if_pos (List.mem_cons_self ..)]) rfl rfl rfl fun h' hl => ?_
  obtain ⟨l1, ⟨_, _, l2⟩, l3, l4⟩ := hl
  have hz : ∀ b o, h₀.get? b = some o → b ≠ 88 → b ∉ frs outer → (wo (e :: frs (env :: outer)) s.heap).get? b = some o := fun b o eb q nb => by
    have n1 : b ≠ e := fun z => by rw [z, hen] at eb; cases eb
    have n2 : b ≠ L := fun z => by rw [z, S.new] at eb; cases eb
    rw [wo_get, if_neg (by rw [frs_cons hf]; simp only [List.mem_cons, not_or]; exact ⟨n1, n2, nb⟩)]
    exact (S.keep.1 b o eb q).1 (.inl nb)
  refine k h' ⟨wo (e :: frs (env :: outer)) s.heap, t0, tt, ⟨l1, by rw [wo_get, if_pos (List.mem_cons_self ..)], l2, l3⟩, ?_, hz, fun _ => ?_, fun b hb o eb => ?_, hen⟩
  · exact Heap.TupAt.of_slots ⟨_, _, ht, rfl, rfl⟩ l4
  · refine (S.keep.2 T).of fun b o vs eb d c => ?_
    have n1 : b ≠ e := fun z => by
      rw [z, he] at eb
      cases eb
      rcases c with c | c <;> cases c
    rw [wo_get, if_neg (by simp only [List.mem_cons, not_or]; exact ⟨n1, fun z => frames_data hF b z o eb vs d⟩)]
    exact eb
  · rcases Decidable.em (b = 88) with q | q
    rotate_left
    · obtain ⟨sl, e1⟩ := (S.keep.1 b o eb q).2
      have hnf : ∀ vs, ({ o with slots := sl } : Obj).data ≠ .fields vs := frames_data hF b (by rw [frs_cons hf]; exact List.mem_cons_of_mem _ hb) _ e1
      obtain ⟨sl', e2⟩ := l4 b _ e1 hnf
      exact ⟨sl', e2⟩
    · subst q
      have hb' : (88 : Addr) ∈ frs (env :: outer) := by rw [frs_cons hf]; exact List.mem_cons_of_mem _ hb
      obtain ⟨ps, _, ht', _⟩ := S.keep.2 T
      exact absurd rfl (frames_data hF 88 hb' _ ht'.2 ps)

/-- it leaves one more frame -/
theorem fly_on {h₀ h : Heap} {env : Env} {outer : List Env} {L e : Addr} {m : Str → Option Value} {text : Str} {Q : Unit → Shared → Prop} (hfr : A.frames = some (env :: outer)) (hf : env.frame = some L)
    (S : St (frs outer) h₀ L m h) (hF : h.FunFrames {} (env :: outer)) (T : Tab h₀) (x : Fly h (env :: outer) e text s.heap)
    (k : ∀ h', Fly h₀ outer e text h' → Q () { s with heap := h' }) : wpAny M A (leaving env (.ref e)) Q E s := by
  obtain ⟨base, t0, tt, fl, tu, k1, k2, k3, k4⟩ := x
  refine wpAny_leaves_onW hfr hf fl fun h' fl' up => ?_
  refine k h' ⟨base, t0, tt, fl', tu.of_slots up, fun b o eb q nb => ?_, fun t => k2 (S.keep.2 t), fun b hb o eb => ?_, S.keep.none T k4⟩
  · have n2 : b ≠ L := fun z => by rw [z, S.new] at eb; cases eb
    exact k1 b o ((S.keep.1 b o eb q).1 (.inl nb)) q (by rw [frs_cons hf]; simp only [List.mem_cons, not_or]; exact ⟨n2, nb⟩)
  · have hb' : b ∈ frs (env :: outer) := by rw [frs_cons hf]; exact List.mem_cons_of_mem _ hb
    have q : b ≠ 88 := fun z => by
      subst z
      obtain ⟨ps, _, ht', _⟩ := S.keep.2 T
      exact absurd rfl (frames_data hF 88 hb' _ ht'.2 ps)
    obtain ⟨sl, e1⟩ := (S.keep.1 b o eb q).2
    have hnf : ∀ vs, ({ o with slots := sl } : Obj).data ≠ .fields vs := frames_data hF b hb' _ e1
    obtain ⟨sl', e2⟩ := k3 b hb' _ e1
    obtain ⟨sl'', e3⟩ := up b _ e2 hnf
    exact ⟨sl'', e3⟩
end

/-- a slice of a text -/
theorem slice_str {w : World} {A : Around} {E : Value → Shared → Prop} {s : Shared} {env : Env} {value : Expr} {lower upper : Option Expr} {p pos : Pos} {Q : Value → Shared → Prop}
    (h : wpAny (model P0 w) A (eval value env) (fun o s₁ => wpAny (model P0 w) A (evalPart lower env) (fun vl s₂ => wpAny (model P0 w) A (evalPart upper env) (fun vu s₃ =>
      ∃ x t l u, o = .str x t ∧ vl = partValue l ∧ vu = partValue u ∧ x.length ≤ sizeLine ∧
        ∀ t' tk, Q (.str (Txt.slice x (l.map (·.1)) (u.map (·.1))) t') { s₃ with heap := s₃.heap.push { cls := .type "slice", data := .fields #[vl, vu, .none] }, toks := tk }) E s₂) E s₁) E s)
    (ht : ∀ o r, letTemporaryGo value o r = pure () := by intro _ _; rfl) :
    wpAny (model P0 w) A (eval (.Subscript value (.Slice lower upper none p) pos) env) Q E s := by
  refine wpAny_Subscript_str_slice (wpAny_mono h (fun o s₁ h₁ => wpAny_mono h₁ (fun vl s₂ h₂ => wpAny_mono h₂ (fun vu s₃ h₃ => ?_) fun _ _ z => z) fun _ _ z => z) fun _ _ z => z) ht
  obtain ⟨x, t, l, u, rfl, rfl, rfl, hx, hq⟩ := h₃
  refine ⟨x, t, l, u, rfl, rfl, rfl, ?_⟩
  refine post_val_or_made (fun _ => ?_) fun t' k => hq t' k
  refine Nat.le_trans ?_ hx
  show ((slicePicked x l u none).filterMap (x.cps[·]?)).toArray.size ≤ _
  rw [List.size_toArray]
  exact Nat.le_trans (List.length_filterMap_le ..) (sliceIndices_le _ _ _)
end
section
open PySem PySem.W PyProof.Rows PySem.Calls PySem.Builtin PySem.Builtin.Str PySem.StrLaws
set_option maxRecDepth 100000
def okC (c : Nat) : Bool := !ilC c
def msgOf (c : Nat) : Str := Str.empty ++ "Found invalid character " ++ reprText ⟨#[c]⟩
theorem ilC_lt {c : Nat} (h : ilC c = true) : c < 128 := by
  unfold ilC at h
  simp at h
  omega
theorem repr_il : ∀ c, c < 128 → ilC c = true → (reprText ⟨#[c]⟩).length ≤ 6 := by decide +kernel
theorem msg_len {c : Nat} (h : ilC c = true) : (msgOf c).length ≤ 100 := by
  unfold msgOf
  rw [Str.length_append]
  have := repr_il c (ilC_lt h) h
  have : (Str.empty ++ Str.ofString "Found invalid character ").length = 24 := by decide +kernel
  omega
theorem ok_le_nl (x : Str) (p : Nat) : runOf okC x p ≤ runOf notNl x p := by
  unfold runOf
  generalize x.cps.toList.drop p = l
  induction l with
  | nil => exact Nat.le_refl _
  | cons c l ih =>
    rw [List.takeWhile_cons, List.takeWhile_cons]
    cases h : okC c with
    | false => exact Nat.zero_le _
    | true =>
      have : notNl c = true := by
        cases hn : notNl c with
        | true => rfl
        | false =>
          have : c = 10 := by simpa [notNl] using hn
          subst this
          cases h
      rw [this]
      simp only [if_true, List.length_cons]
      omega
theorem all_ok (x : Str) (p : Nat) : ((x.cps.toList.drop p).take (runOf notNl x p)).all (fun c => !one ilC ⟨#[c]⟩) = decide (runOf okC x p = runOf notNl x p) := by
  have hle := ok_le_nl x p
  revert hle
  unfold runOf
  generalize x.cps.toList.drop p = l
  intro hle
  have e : l.take (l.takeWhile notNl).length = l.takeWhile notNl := (List.prefix_iff_eq_take.mp (List.takeWhile_prefix notNl)).symm
  rw [e]
  clear e
  induction l with
  | nil => rfl
  | cons c l ih =>
    rw [List.takeWhile_cons, List.takeWhile_cons] at hle ⊢
    cases hn : notNl c with
    | false =>
      have : c = 10 := by simpa [notNl] using hn
      subst this
      rfl
    | true =>
      cases h : okC c with
      | false =>
        have : ilC c = true := by simpa [okC] using h
        simp only [if_true, List.all_cons, one_sign, this]
        simp
      | true =>
        have h2 : ilC c = false := by simpa [okC] using h
        rw [hn, h] at hle
        simp only [if_true, List.length_cons] at hle
        have := ih (by omega)
        simp only [if_true, List.all_cons, h2, List.length_cons, Bool.not_false, Bool.true_and, show one ilC ⟨#[c]⟩ = ilC c from rfl]
        refine Eq.trans this ?_
        simp
section
variable {w : World} {A : Around} {E : Value → Shared → Prop} {s : Shared} {mg mb : Str → Option Value} {outer : List Env}
theorem method_isdisjoint {M : Model} {a : Addr} {Sx : Str → Bool} {pl : Sem Bool} {Q : Value × List Value → Shared → Prop} (hS : FSet w s.heap a Sx) (h : Q (.builtin "frozenset.isdisjoint", [.ref a]) s) :
    wpAny M A (getMethod (.ref a) "isdisjoint" pl) Q E s :=
  getMethod_builtin hS.typeIs FF.plainAttrs FF.slot_isdisjoint FF.type_isdisjoint (fun b e => by cases e; exact let ⟨o, _, _, _, e, _, d, _⟩ := hS; ⟨o, e, d⟩) h
theorem slice_nat (x : Str) {a b : Nat} (hab : a ≤ b) (hb : b ≤ x.length) : Txt.slice x (some (a : Int)) (some (b : Int)) = ⟨((x.cps.toList.drop a).take (b - a)).toArray⟩ := sliceText_nat x hab hb

set_option maxHeartbeats 4000000 in
theorem until_rest {n p : Nat} {x : Str} {t u v : Tok} {L : Addr} {h₀ : Heap} {m : Str → Option Value} {Q : Flow → Shared → Prop} (G : Gl mg mb) (R : Rm (n + 2) A (ev 8 L 72 71 :: outer)) (I : Inv w mg mb h₀) (T : Tab h₀)
    (hp : p ≤ x.length) (hx : x.length ≤ 100000)
    (S : St (frs outer) h₀ L m s.heap) (m1 : m "src" = some (.str x t)) (m2 : m "pos" = some (.int (p : Int) u)) (m3 : m "new_pos" = some (.int ((p + runOf notNl x p : Nat) : Int) v)) (m4 : m "error_on" = some (.ref 36))
    (hq : runOf okC x p = runOf notNl x p → ∀ h' tk u', Keep (frs outer) h₀ h' → Q (.ret (.int ((p + runOf notNl x p : Nat) : Int) u')) { s with heap := h', toks := tk })
    (he : runOf okC x p < runOf notNl x p → ∀ h' tk m' c e t0 tt, x.cps[p + runOf okC x p]? = some c → ilC c = true → St (frs outer) h₀ L m' h' → h₀.get? e = none →
      h'.get? e = some { cls := .ref 55, data := .fields #[.ref t0, .none, .none, .none, .bool false, .none] } → h'.get? t0 = some { cls := .type "tuple", data := .seq #[.str (errText (msgOf c) x (p + runOf okC x p)) tt] } →
      E (.ref e) { s with heap := h', toks := tk }) :
    wpAny (model P0 w) A (execs ((fnBody (stmtAt 8)).drop 1) (ev 8 L 72 71)) Q E s := by
  have hle := runOf_le notNl x p hp
  have hok := ok_le_nl x p
  refine wpAny_execs_cons (wpAny_If (isTrue_not (isTrue_plain (MethodCall_ (nm S.ns m4 (method_isdisjoint (S.inv I).il ?_))))))
  refine callM (args_cons (slice_str (nm S.ns m1 (wpAny_evalPart_some (nm S.ns m2 (wpAny_evalPart_some (nm S.ns m3 ⟨x, t, some (_, _), some (_, _), rfl, rfl, rfl, by rw [sizeLine_eq]; omega, fun t' tk => args_nil ?_⟩)))))))
  have S₁ : St (frs outer) h₀ L m (s.heap.push { cls := .type "slice", data := .fields #[.int (p : Int) u, .int ((p + runOf notNl x p : Nat) : Int) v, .none] }) := S.keeps fun b o e => Heap.get?_push_of_some _ e
  refine isdisjoint_str (s := { s with heap := s.heap.push _, toks := tk }) R.hd (S₁.inv I).il fun h₂ tk₂ k₂ => wpAny_truthy_bool ?_
  have S₂ := S₁.keeps k₂
  have hsl : (Txt.slice x (some (p : Int)) (some ((p + runOf notNl x p : Nat) : Int))).cps.toList.all (fun c => !one ilC ⟨#[c]⟩) = decide (runOf okC x p = runOf notNl x p) := by
    rw [slice_nat x (Nat.le_add_right _ _) hle, Nat.add_sub_cancel_left, ← all_ok]
  by_cases hall : runOf okC x p = runOf notNl x p
  · rw [decide_eq_true hall] at hsl
    refine PySem.W.ite_neg (by show ¬(!(Txt.slice x (some (p : Int)) (some ((p + runOf notNl x p : Nat) : Int))).cps.toList.all (fun c => !one ilC ⟨#[c]⟩)) = true; rw [hsl]; decide) (wpAny_execs_nil (wpAny_execs_cons (wpAny_Return_some (nm S₂.ns m3 ?_))))
    exact hq hall _ _ _ S₂.keep
  rw [decide_eq_false hall] at hsl
  have hlt : runOf okC x p < runOf notNl x p := by omega
  refine PySem.W.ite_pos (by show (!(Txt.slice x (some (p : Int)) (some ((p + runOf notNl x p : Nat) : Int))).cps.toList.all (fun c => !one ilC ⟨#[c]⟩)) = true; rw [hsl]; decide) (wpAny_execs_cons (wpAny_While ?_))
  refine codeAny_whileLoop (fun k s' => ∃ p' h' tk m' u', k = p + runOf okC x p - p' ∧ p' ≤ p + runOf okC x p ∧ p + runOf okC x p = p' + runOf okC x p' ∧ s' = { s with heap := h', toks := tk } ∧ St (frs outer) h₀ L m' h' ∧
    m' "src" = some (.str x t) ∧ m' "pos" = some (.int ((p' : Nat) : Int) u') ∧ m' "error_on" = some (.ref 36)) ?_ (p + runOf okC x p - p) ⟨p, h₂, _, m, u, rfl, Nat.le_add_right _ _, rfl, rfl, S₂, m1, m2, m4⟩
  rintro k s' ⟨p', h', tk', m', u', rfl, hp', hrun, rfl, S', m1', m2', m4'⟩
  refine wpAny_isTrue_Compare1 (Subscript_ (nm S'.ns m1' (nm S'.ns m2' (sub_str R.hd (by omega) (fun hge => by omega) fun c hc => ?_))))
  refine nm S'.ns m4' (notIn_fset (s := { s with heap := h', toks := tk' + 1 }) (S'.inv I).il (wpAny_truthy_bool ?_))
  rw [one_sign]
  rw [runOf_step hc] at hrun
  cases hw : ilC c with
  | false =>
    have hok' : okC c = true := by simp [okC, hw]
    rw [hok'] at hrun
    refine PySem.W.ite_pos rfl ?_
    refine wpAny_execs_cons (wpAny_AugAssign_Name (wpAny_loadName_local rfl rfl S'.ns m2' (wpAny_Constant_int (wpAny_iadd_int (st_store S' fun h₃ S₃ => ?_)))))
    simp only [if_true] at hrun
    refine wpAny_execs_nil ⟨p + runOf okC x p - (p' + 1), by omega, p' + 1, h₃, _, _, _, rfl, by omega, by omega, rfl, S₃, m1', rfl, m4'⟩
  | true =>
    have hok' : okC c = false := by simp [okC, hw]
    rw [hok'] at hrun
    simp only [Bool.false_eq_true, if_false, Nat.add_zero] at hrun
    refine PySem.W.ite_neg (by decide) ?_
    refine wpAny_execs_nil (wpAny_execs_cons ?_)
    rw [arm_exec_Raise]
    refine wpAny_bind (wpAny_standAt ?_)
    obtain ⟨k0, k1, k2, k3, k5, hcls⟩ := I.cls
    refine wpAny_raiseStmt_made_sub (C := 55) (nm := "TOMLDecodeError") (q := "TOMLDecodeError") (N := 54) (bs := [.type "ValueError"]) (bm := bmV) (hdct := true) (sn := []) (sub := []) (ab := false) (col := none) (dd := none) (k0 := k0) (k1 := k1) (k2 := k2) (k3 := k3) (k5 := k5) (newId := "ValueError.__new__") (by decide) R.hd ?_
    refine wpAny_bind ?_
    refine wpAny_mono (Q := fun v s₃ => ∃ e h' tk m' t0 tt, v = .ref e ∧ s₃ = { s with heap := h', toks := tk } ∧ St (frs outer) h₀ L m' h' ∧ h₀.get? e = none ∧
      h'.get? e = some { cls := .ref 55, data := .fields #[.ref t0, .none, .none, .none, .bool false, .none] } ∧ h'.get? t0 = some { cls := .type "tuple", data := .seq #[.str (errText (msgOf c) x (p + runOf okC x p)) tt] }) ?_ ?_ fun _ _ z => z
    · refine Call_ (nmG G (S'.inv I) rfl (callF (args_cons (nm S'.ns m1' (args_cons (nm S'.ns m2' (args_cons (wpAny_JoinedStr (Constant_str ⟨_, _, rfl, by decide +kernel, ?_⟩)))))))))
      refine wpAny_FormattedValue_repr (Subscript_ (nm S'.ns m1' (nm S'.ns m2' (sub_str R.hd (by omega) (fun hge => by omega) fun c' hc' => ?_))))
      obtain rfl : c = c' := Option.some.inj (hc.symm.trans hc')
      have hrl := repr_il c (ilC_lt hw) hw
      have hml := msg_len hw
      refine wpAny_pyReprObj_str (formatField_str (fun t1 tk1 => ⟨_, _, rfl, ?_, ⟨?_, args_nil ⟨(S'.inv I).isFn (i := 11) (c := 92) (by decide), ?_⟩⟩⟩) ?_) ?_
      · rw [sizeLine_eq]; exact Nat.le_trans hml (by decide)
      · rw [sizeLine_eq]; exact Nat.le_trans hml (by decide)
      · refine suffixed_spec G R (S'.inv I) (S'.keep.2 T) (by omega) hx hml fun h₃ tk₃ e t0 tt k₃ e1 e2 e3 e4 => ?_
        exact ⟨e, h₃, tk₃, m', t0, tt, rfl, rfl, S'.on' k₃, S'.keep.none T e1, e2, by rw [hrun]; exact e4⟩
      · rw [sizeLine_eq]; omega
      · rw [sizeLine_eq]; omega
    · rintro v s₃ ⟨e, h₃, tk₃, m₃, t0, tt, rfl, rfl, S₃, e1, e2, e3⟩
      refine wpAny_bind (wpAny_standAt (wpAny_pure ⟨e, t0, rfl, (S₃.keep.1 _ _ hcls (by decide)).1 (.inr (by decide)), e2, ?_⟩))
      exact he hlt h₃ tk₃ m₃ c e t0 tt (by rw [hrun]; exact hc) hw S₃ e1 e2 e3

set_option maxHeartbeats 4000000 in
theorem until_spec {n p : Nat} {x : Str} {t u v : Tok} {Q : Value → Shared → Prop} (G : Gl mg mb) (R : Rm (n + 3) A outer) (I : Inv w mg mb s.heap) (T : Tab s.heap) (hF : s.heap.FunFrames {} outer)
    (hp : p ≤ x.length) (hx : x.length ≤ 100000)
    (hq : runOf okC x p = runOf notNl x p → ∀ h' tk u', Keep (frs outer) s.heap h' → Q (.int ((p + runOf notNl x p : Nat) : Int) u') { s with heap := h', toks := tk })
    (he : runOf okC x p < runOf notNl x p → ∀ h' tk c e, x.cps[p + runOf okC x p]? = some c → ilC c = true → Fly s.heap outer e (errText (msgOf c) x (p + runOf okC x p)) h' →
      E (.ref e) { s with heap := h', toks := tk }) :
    wpAny (model P0 w) A (call (.ref 72) [.str x t, .int p u, .str nl v] [("error_on", .ref 36), ("error_on_eof", .bool false)]) Q E s := by
  refine enter (i := 8) (c := 71) (binds := [("src", .str x t), ("pos", .int p u), ("expect", .str nl v), ("error_on", .ref 36), ("error_on_eof", .bool false)]) R I (by decide) (fun pm => by rfl) (by exact locs rfl) fun L h₁ hL S R' => ?_
  have fin : ∀ (h₂ : Heap) (tk : Nat) (m : Str → Option Value) (v' : Tok), St (frs outer) s.heap L m h₂ → m "src" = some (.str x t) → m "pos" = some (.int (p : Int) u) → m "new_pos" = some (.int ((p + runOf notNl x p : Nat) : Int) v') → m "error_on" = some (.ref 36) →
      wpAny (model P0 w) (A.deeper (ev 8 L 72 71)) (execs ((fnBody (stmtAt 8)).drop 1) (ev 8 L 72 71)) (fun f s' => Q (match f with | .ret v => v | _ => .none) s')
        (fun e s' => wpAny (model P0 w) (A.deeper (ev 8 L 72 71)) (leaving (ev 8 L 72 71) e) (fun _ s'' => E e s'') E s') { s with heap := h₂, toks := tk } := by
    intro h₂ tk m v' S₂ m1 m2 m3 m4
    refine until_rest (n := n) G R' I T hp hx S₂ m1 m2 m3 m4 (fun ha h' tk' u' k => hq ha h' tk' u' k) fun hlt h' tk' m' c e t0 tt hc hil S' e1 e2 e3 => ?_
    exact fly_first (s := { s with heap := h', toks := tk' }) R'.fr rfl S' (frames_in (i := 8) (a := 72) (c := 71) hF S' R.ne rfl) T e2 e1 e3 fun h'' fl => he hlt h'' _ c e hc hil fl
  refine wpAny_execs_cons (wpAny_Try_except (wpAny_execs_cons ?_))
  repeat walk_at "m"
  refine call_index3 R'.hd hp (fun hend h₂ tk₂ e hx₂ => ?_) fun hlt => ?_
  · refine air_caught (s := { s with heap := h₂, toks := tk₂ }) (X := "ValueError") (T := "ValueError") R'.lo R'.fr (frames_in (i := 8) (a := 72) (c := 71) hF S R.ne rfl) rfl hx₂
      (isSubtype_of_subB (by decide +kernel)) (isSubtype_of_subB (by decide +kernel)) (isSubtype_of_subB (by decide +kernel)) (fun h₅ k₅ Q' q => ?_) fun h₅ k₅ => ?_
    · exact nmB G ((S.on' k₅).inv I) rfl q
    · have S₅ := S.on' k₅
      repeat walk_at "m"
      rename_i h₆ S₆
      refine PySem.W.ite_neg (by decide) (wpAny_execs_nil (wpAny_execs_nil ?_))
      exact wpAny_mono (fin h₆ _ _ _ S₆ rfl rfl (by rw [hend]; rfl) rfl) (fun _ _ z => z) fun _ _ z => z
  · refine st_store S fun h₂ S₂ => wpAny_execs_nil (wpAny_execs_nil ?_)
    exact wpAny_mono (fin h₂ _ _ _ S₂ rfl rfl rfl rfl) (fun _ _ z => z) fun _ _ z => z
end
end
section
open PySem PySem.W PyProof.Rows PySem.Calls PySem.Builtin PySem.Builtin.Str PySem.StrLaws
set_option maxRecDepth 100000
def FlyAt (fl : Value) (h : Heap) (l : List Env) (e : Addr) (text : Str) (h' : Heap) : Prop :=
  ∃ base t0 tt, (base.StaysIn h' ∧ base.get? e = none ∧ h'.FunFrames base l ∧ h'.TracedAtW base e (.ref 55) (.ref t0) fl) ∧ h'.TupAt t0 [.str text tt] ∧ (∀ b o, h.get? b = some o → b ≠ 88 → b ∉ frs l → base.get? b = some o) ∧ (Tab h → Tab base) ∧
    (∀ b ∈ frs l, ∀ o, h.get? b = some o → ∃ sl, h'.get? b = some { o with slots := sl }) ∧ (h.get? e = none)
theorem flyAt_none {h h' : Heap} {l : List Env} {e : Addr} {text : Str} : FlyAt .none h l e text h' ↔ Fly h l e text h' := Iff.rfl
theorem FlyAt.keep {fl : Value} {h h' : Heap} {l : List Env} {e : Addr} {text : Str} (x : FlyAt fl h l e text h') (lo : ∀ b ∈ frs l, 131 < b) : Keep (frs l) h h' := by
  obtain ⟨base, t0, tt, ⟨f1, _, _, _⟩, _, k1, k2, k3, _⟩ := x
  refine ⟨fun b o e q => ?_, fun t => (k2 t).of fun b o _ e _ _ => f1 b o e⟩
  by_cases hb : b ∈ frs l
  · exact ⟨fun z => z.elim (fun z => absurd hb z) fun z => absurd z (Nat.not_lt.mpr (lo b hb)), k3 b hb o e⟩
  · have := f1 b o (k1 b o e q hb)
    exact ⟨fun _ => this, o.slots, this⟩
theorem FlyAt.drop {fl : Value} {h₀ h h' : Heap} {env : Env} {outer : List Env} {L e : Addr} {m : Str → Option Value} {text : Str} (hf : env.frame = some L)
    (S : St (frs outer) h₀ L m h) (T : Tab h₀) (hF : h.FunFrames {} (env :: outer)) (x : FlyAt fl h (env :: outer) e text h') : FlyAt fl h₀ outer e text h' := by
  obtain ⟨base, t0, tt, ⟨f1, f2, ⟨f3, f4, f5⟩, f6⟩, tu, k1, k2, k3, k4⟩ := x
  refine ⟨base, t0, tt, ⟨f1, f2, f5, f6⟩, tu, fun b o eb q nb => ?_, fun t => k2 (S.keep.2 t), fun b hb o eb => ?_, S.keep.none T k4⟩
  · have n2 : b ≠ L := fun z => by rw [z, S.new] at eb; cases eb
    exact k1 b o ((S.keep.1 b o eb q).1 (.inl nb)) q (by rw [frs_cons hf]; simp only [List.mem_cons, not_or]; exact ⟨n2, nb⟩)
  · have hb' : b ∈ frs (env :: outer) := by rw [frs_cons hf]; exact List.mem_cons_of_mem _ hb
    have q : b ≠ 88 := fun z => by
      subst z
      obtain ⟨ps, _, ht', _⟩ := S.keep.2 T
      exact absurd rfl (frames_data hF 88 hb' _ ht'.2 ps)
    obtain ⟨sl, e1⟩ := (S.keep.1 b o eb q).2
    obtain ⟨sl', e2⟩ := k3 b hb' _ e1
    exact ⟨sl', e2⟩
theorem up_frames {h h' h'' : Heap} {base : Heap} {l : List Env} (k3 : ∀ b ∈ frs l, ∀ o, h.get? b = some o → ∃ sl, h'.get? b = some { o with slots := sl }) (f : h'.FunFrames base l) (up : h'.UpToSlots h'') :
    ∀ b ∈ frs l, ∀ o, h.get? b = some o → ∃ sl, h''.get? b = some { o with slots := sl } := fun b hb o e => by
  obtain ⟨sl, e1⟩ := k3 b hb o e
  obtain ⟨sl', e2⟩ := up b _ e1 (frames_data f b hb _ e1)
  exact ⟨sl', e2⟩
section
variable {M : Model} {A : Around} {E : Value → Shared → Prop} {s : Shared}
/-- seen in the frame at hand -/
theorem fly_note {h : Heap} {env : Env} {outer : List Env} {L e : Addr} {text : Str} {Q : Unit → Shared → Prop} (hfr : A.frames = some (env :: outer)) (hf : env.frame = some L) (x : Fly h (env :: outer) e text s.heap)
    (k : ∀ h', FlyAt (rawInt L) h (env :: outer) e text h' → Q () { s with heap := h' }) : wpAny M A (noteFrame (.ref e) env) Q E s := by
  obtain ⟨base, t0, tt, fl, tu, k1, k2, k3, k4⟩ := x
  refine wpAny_looks_onW hfr hf fl fun h' hd up => k h' ⟨base, t0, tt, hd, tu.of_slots up, k1, k2, up_frames k3 fl.2.2.1 up, k4⟩
theorem fly_again {h : Heap} {env : Env} {l : List Env} {L e : Addr} {text : Str} {Q : Unit → Shared → Prop} (hf : env.frame = some L) (x : FlyAt (rawInt L) h l e text s.heap)
    (k : Q () s) : wpAny M A (noteFrame (.ref e) env) Q E s := by
  obtain ⟨base, t0, tt, fl, _⟩ := x
  exact wpAny_noteFrame_againW hf fl.2.2.2 k
theorem fly_land {h : Heap} {l : List Env} {L e : Addr} {text : Str} {Q : Unit → Shared → Prop} (x : FlyAt (rawInt L) h l e text s.heap)
    (k : ∀ h', Fly h l e text h' → Q () { s with heap := h' }) : wpAny M A (setFlight (.ref e) none) Q E s := by
  obtain ⟨base, t0, tt, fl, tu, k1, k2, k3, k4⟩ := x
  refine wpAny_landsW fl fun h' hd up => k h' ⟨base, t0, tt, hd, tu.of_slots up, k1, k2, up_frames k3 fl.2.2.1 up, k4⟩
theorem fly_back {fl : Value} {h : Heap} {env : Env} {l : List Env} {L e : Addr} {text : Str} (hf : env.frame = some L) (x : FlyAt fl h l e text s.heap)
    (k : ∀ h', FlyAt (rawInt L) h l e text h' → E (.ref e) { s with heap := h' }) : cameBackBy M A env E (.ref e) s := by
  obtain ⟨base, t0, tt, ⟨f1, f2, f3, f4⟩, tu, k1, k2, k3, k4⟩ := x
  unfold cameBackBy
  obtain ⟨oe, vs, T, oT, ts, he, hcls, hd, h1, hnT, hTe, hT, hdT, h3⟩ := id f4
  refine wpAny_bind (wpAny_field he hd h1 ?_)
  rw [if_neg (by simp)]
  rw [hf]
  refine setFlight_some f1 f3 f4 fun h' g1 g2 g3 g4 => k h' ⟨base, t0, tt, ⟨g1, f2, g2, g3⟩, ?_, k1, k2, ?_, k4⟩
  · exact tu.of_slots fun b o e n => ⟨o.slots, g4 b o e n⟩
  · exact up_frames k3 f3 fun b o e n => ⟨o.slots, g4 b o e n⟩
theorem fly_leave {h₀ h : Heap} {env : Env} {outer : List Env} {L e : Addr} {m : Str → Option Value} {text : Str} {Q : Unit → Shared → Prop} (hf : env.frame = some L)
    (S : St (frs outer) h₀ L m h) (hF : h.FunFrames {} (env :: outer)) (T : Tab h₀) (x : FlyAt (rawInt L) h (env :: outer) e text s.heap)
    (k : ∀ h', Fly h₀ outer e text h' → Q () { s with heap := h' }) : wpAny M A (leaving env (.ref e)) Q E s := by
  unfold leaving
  exact wpAny_bind (fly_again hf x (fly_land x fun h' y => k h' (FlyAt.drop hf S T hF y)))
end
end
section
open PySem PySem.W PyProof.Rows PySem.Calls PySem.Builtin PySem.Builtin.Str PySem.StrLaws
set_option maxRecDepth 100000
/-- what skip_comment tells: a place, or where the wrong sign stands -/
def com (x : Str) (p : Nat) : Nat ⊕ Nat :=
  if x.cps[p]? = some 35 then (if runOf okC x (p + 1) = runOf notNl x (p + 1) then .inl (p + 1 + runOf notNl x (p + 1)) else .inr (p + 1 + runOf okC x (p + 1))) else .inl p
inductive Skips (x : Str) : Nat → Nat ⊕ Nat → Prop
  | stop {p} : com x (p + runOf wsC x p) = .inl p → Skips x p (.inl p)
  | err {p e} : com x (p + runOf wsC x p) = .inr e → Skips x p (.inr e)
  | step {p q r} : com x (p + runOf wsC x p) = .inl q → q ≠ p → Skips x q r → Skips x p r
theorem com_le {x : Str} {p q : Nat} (hp : p ≤ x.length) (h : com x p = .inl q) : p ≤ q ∧ q ≤ x.length := by
  unfold com at h
  split at h
  · rename_i h1
    have hlt : p < x.length := (Array.getElem?_eq_some_iff.mp h1).1
    split at h
    · cases h
      have := runOf_le notNl x (p + 1) hlt
      omega
    · cases h
  · cases h
    omega
section
variable {w : World} {A : Around} {E : Value → Shared → Prop} {s : Shared} {mg mb : Str → Option Value} {outer : List Env}
theorem CallK {M : Model} {env : Env} {func : Expr} {args : List Expr} {kws : List Keyword} {pos : Pos} {Q : Value → Shared → Prop}
    (h : wpAny M A (eval func env) (fun f s₁ => wpAny M A (callWith pos f [] (backTo pos (starEach args env)) (backToKw pos (keywordEach kws env))) Q E s₁) E s)
    (he : eval (.Call func args kws pos) env = (do callWith pos (← eval func env) [] (backTo pos (starEach args env)) (backToKw pos (keywordEach kws env))) := by rfl) :
    wpAny M A (eval (.Call func args kws pos) env) Q E s := by
  rw [he]; exact wpAny_bind h
set_option maxHeartbeats 4000000 in
theorem comment_spec {n p : Nat} {x : Str} {t u : Tok} {Q : Value → Shared → Prop} (G : Gl mg mb) (R : Rm (n + 4) A outer) (I : Inv w mg mb s.heap) (T : Tab s.heap) (hF : s.heap.FunFrames {} outer)
    (hp : p ≤ x.length) (hx : x.length ≤ 100000)
    (hq : ∀ q, com x p = .inl q → ∀ h' tk u', Keep (frs outer) s.heap h' → Q (.int (q : Int) u') { s with heap := h', toks := tk })
    (he : ∀ q, com x p = .inr q → ∀ h' tk c e, x.cps[q]? = some c → ilC c = true → Fly s.heap outer e (errText (msgOf c) x q) h' →
      E (.ref e) { s with heap := h', toks := tk }) :
    wpAny (model P0 w) A (call (.ref 79) [.str x t, .int p u]) Q E s := by
  refine enter (i := 9) (c := 78) (binds := [("src", .str x t), ("pos", .int p u)]) R I (by decide) (fun pm => by rfl) (by exact locs rfl) fun L h₁ hL S R' => ?_
  have hFr : ∀ (m : Str → Option Value) h₂, St (frs outer) s.heap L m h₂ → h₂.FunFrames {} (ev 9 L 79 78 :: outer) := fun m h₂ S₂ => frames_in (i := 9) (a := 79) (c := 78) hF S₂ R.ne rfl
  refine wpAny_execs_cons (wpAny_Try_except (wpAny_execs_cons (wpAny_Assign_Name ?_)))
  refine Subscript_ (nm S.ns rfl (nm S.ns rfl (sub_str R'.hd (by omega) (fun hge h₂ tk₂ e hx₂ => ?_) fun c hc => ?_)))
  · obtain rfl : p = x.length := by omega
    refine air_caught (s := { s with heap := h₂, toks := tk₂ }) (X := "IndexError") (T := "IndexError") R'.lo R'.fr (hFr _ _ S) rfl hx₂
      (isSubtype_of_subB (by decide +kernel)) (isSubtype_of_subB (by decide +kernel)) (isSubtype_of_subB (by decide +kernel)) (fun h₅ k₅ Q' q => ?_) fun h₅ k₅ => ?_
    · exact nmB G ((S.on' k₅).inv I) rfl q
    · have S₅ := S.on' k₅
      have hcom : com x x.length = .inl x.length := by unfold com; rw [if_neg (by simp [Str.length])]
      repeat walk_at "m"
      rename_i h₆ S₆
      refine PySem.EqNone.eq_none_str (wpAny_truthy_bool (PySem.W.ite_neg (by decide) (wpAny_execs_nil (wpAny_execs_cons (wpAny_Return_some (nm S₆.ns rfl ?_))))))
      exact hq _ hcom _ _ _ S₆.keep
  · refine st_store S fun h₂ S₂ => wpAny_execs_nil (wpAny_execs_nil ?_)
    repeat walk_at "m"
    by_cases hc35 : c = 35
    · subst hc35
      refine PySem.W.ite_pos (by decide) ?_
      have hlt : p < x.length := (Array.getElem?_eq_some_iff.mp hc).1
      refine wpAny_execs_cons (wpAny_Return_some ?_)
      refine CallK (nmG G (S₂.inv I) rfl (callFK rfl (args_cons (nm S₂.ns rfl (args_cons ?_)))))
      repeat walk_at "m"
      refine wpAny_evalAll_cons (wpAny_bind (nmG G (S₂.inv I) rfl (wpAny_bind (wpAny_standAt (wpAny_pure (wpAny_evalAll_cons (wpAny_bind ?_)))))))
      refine wpAny_Constant_bool (wpAny_bind (wpAny_standAt (wpAny_pure (wpAny_evalAll_nil ⟨(S₂.inv I).isFn (i := 8) (c := 71) (by decide), ?_⟩))))
      refine until_spec (n := n) (p := p + 1) G R' (S₂.inv I) (S₂.keep.2 T) (hFr _ _ S₂) hlt hx (fun ha h₃ tk₃ u₃ k₃ => ?_) fun hlt' h₃ tk₃ c₃ e₃ hc₃ hil fl => ?_
      · exact hq _ (by unfold com; rw [if_pos hc, if_pos ha]) _ _ _ (S₂.on' k₃).keep
      · exact fly_on (s := { s with heap := h₃, toks := tk₃ }) R'.fr rfl S₂ (hFr _ _ S₂) T fl fun h₄ fl' => he _ (by unfold com; rw [if_pos hc, if_neg (by omega)]) h₄ _ c₃ e₃ hc₃ hil fl'
    · refine PySem.W.ite_neg (by show ¬([c] == [35]) = true; simpa using hc35) (wpAny_execs_nil (wpAny_execs_cons (wpAny_Return_some (nm S₂.ns rfl ?_))))
      exact hq _ (by unfold com; rw [if_neg (by rw [hc]; simpa using hc35)]) _ _ _ S₂.keep

set_option maxHeartbeats 4000000 in
theorem skips_spec {n p : Nat} {x : Str} {t u : Tok} {Q : Value → Shared → Prop} (G : Gl mg mb) (R : Rm (n + 5) A outer) (I : Inv w mg mb s.heap) (T : Tab s.heap) (hF : s.heap.FunFrames {} outer)
    (hp : p ≤ x.length) (hx : x.length ≤ 100000)
    (hq : ∀ q, Skips x p (.inl q) → ∀ h' tk u', Keep (frs outer) s.heap h' → Q (.int (q : Int) u') { s with heap := h', toks := tk })
    (he : ∀ q, Skips x p (.inr q) → ∀ h' tk c e, x.cps[q]? = some c → ilC c = true → Fly s.heap outer e (errText (msgOf c) x q) h' →
      E (.ref e) { s with heap := h', toks := tk }) :
    wpAny (model P0 w) A (call (.ref 86) [.str x t, .int p u]) Q E s := by
  refine enter (i := 10) (c := 85) (binds := [("src", .str x t), ("pos", .int p u)]) R I (by decide) (fun pm => by rfl) (by exact locs rfl) fun L h₁ hL S R' => ?_
  have hFr : ∀ (m : Str → Option Value) h₂, St (frs outer) s.heap L m h₂ → h₂.FunFrames {} (ev 10 L 86 85 :: outer) := fun m h₂ S₂ => frames_in (i := 10) (a := 86) (c := 85) hF S₂ R.ne rfl
  refine wpAny_execs_cons (wpAny_While ?_)
  refine codeAny_whileLoop (fun k s' => ∃ p' h' tk m u', k = x.length - p' ∧ p' ≤ x.length ∧ (∀ r, Skips x p' r → Skips x p r) ∧ s' = { s with heap := h', toks := tk } ∧ St (frs outer) s.heap L m h' ∧
    m "src" = some (.str x t) ∧ m "pos" = some (.int ((p' : Nat) : Int) u')) ?_ (x.length - p) ⟨p, h₁, _, _, u, rfl, hp, fun _ z => z, rfl, S, rfl, rfl⟩
  rintro k s' ⟨p', h', tk, m, u', rfl, hp', hrun, rfl, S', m1, m2⟩
  refine isTrue_plain (wpAny_Constant_bool (wpAny_truthy_bool (PySem.W.ite_pos rfl ?_)))
  refine wpAny_execs_cons (wpAny_Assign_Name (nm S'.ns m2 (st_store S' fun h₂ S₂ => wpAny_execs_cons (wpAny_Assign_Name ?_))))
  have hws := runOf_le wsC x p' hp'
  refine Call_ (nmG G (S₂.inv I) rfl (callF (args_cons (nm S₂.ns m1 (args_cons (nm S₂.ns m2 (args_cons (nmG G (S₂.inv I) rfl (args_nil ⟨(S₂.inv I).isFn (i := 7) (c := 64) (by decide), ?_⟩)))))))))
  refine skip_chars_spec (n := n + 3) G R' (S₂.inv I) (hFr _ _ S₂) hp' hx fun h₃ tk₃ u₃ k₃ => ?_
  have S₃ := S₂.on' (L := L) k₃
  refine st_store S₃ fun h₄ S₄ => wpAny_execs_cons (wpAny_Assign_Name ?_)
  refine Call_ (nmG G (S₄.inv I) rfl (callF (args_cons (nm S₄.ns m1 (args_cons (nm S₄.ns rfl (args_nil ⟨(S₄.inv I).isFn (i := 9) (c := 78) (by decide), ?_⟩)))))))
  refine comment_spec (n := n) G R' (S₄.inv I) (S₄.keep.2 T) (hFr _ _ S₄) hws hx (fun q hcom h₅ tk₅ u₅ k₅ => ?_) fun q hcom h₅ tk₅ c₅ e₅ hc₅ hil fl => ?_
  · have S₅ := S₄.on' (L := L) k₅
    have hqs := com_le hws hcom
    refine st_store S₅ fun h₆ S₆ => wpAny_execs_cons (wpAny_If (wpAny_isTrue_Compare1 (nm S₆.ns rfl (nm S₆.ns rfl (eq_int (wpAny_truthy_bool ?_))))))
    by_cases hqp : q = p'
    · subst hqp
      refine PySem.W.ite_pos (by simp) (wpAny_execs_cons (wpAny_Return_some (nm S₆.ns rfl ?_)))
      exact hq _ (hrun _ (.stop hcom)) _ _ _ S₆.keep
    · refine PySem.W.ite_neg (by simp; omega) (wpAny_execs_nil (wpAny_execs_nil ?_))
      exact ⟨x.length - q, by omega, q, h₆, _, _, _, rfl, hqs.2, fun r z => hrun r (.step hcom hqp z), rfl, S₆, m1, rfl⟩
  · refine fly_note (s := { s with heap := h₅, toks := tk₅ }) R'.fr rfl fl fun h₆ f₆ => ?_
    refine fly_back (s := { s with heap := h₆, toks := tk₅ }) rfl f₆ fun h₇ f₇ => ?_
    exact fly_leave (s := { s with heap := h₇, toks := tk₅ }) rfl S₄ (hFr _ _ S₄) T f₇ fun h₈ f₈ => he q (hrun _ (.err hcom)) h₈ _ c₅ e₅ hc₅ hil f₈
end
end
section
open PySem PySem.W PyProof.Rows PySem.Calls PySem.Builtin PySem.Builtin.Str PySem.StrLaws
set_option maxRecDepth 100000
section
variable {prog : Program} {w : World} {A : Around} {E : Value → Shared → Prop} {s : Shared} {mg mb : Str → Option Value} {outer : List Env}

def Own55 (h : Heap) : Prop := (∃ k0 k1 k2 k3 k5, h.get? 55 = some (clsO k0 k1 k2 k3 k5)) ∧ ∃ mN, h.Ns 54 mN ∧ mN "__init__" = none ∧ mN "__str__" = none
def OwnE (h : Heap) (e : Addr) (text : Str) (tt : Tok) : Prop := ∃ o vs t0, h.get? e = some o ∧ o.cls = .ref 55 ∧ o.data = .fields vs ∧ vs[0]? = some (.ref t0) ∧ h.TupAt t0 [.str text tt]

theorem bexcStr_own {e : Addr} {m : Str} {tk : Tok} {Q : Fin → Shared → Prop} (x : OwnE s.heap e m tk) (hq : Q (.done (.ret (.str m tk))) s) :
    wpAny (model prog w) A (Builtin.«BaseException.__str__» ⟨[.ref e], []⟩) Q E s := by
  obtain ⟨o, vs, t0, ho, _, hd, h0, ht⟩ := x
  obtain ⟨ot, k, hto, _, htd⟩ := ht
  have ha : ∀ {M : Model} {A : Around} {E : Value → Shared → Prop} {Q : Value × List Value → Shared → Prop}, Q (.ref t0, [.str m tk]) s → wpAny M A (Builtin.BaseException.bexcArgs (.ref e)) Q E s := fun hq => by
    unfold Builtin.BaseException.bexcArgs
    exact wpAny_bind (wpAny_field ho hd h0 (wpAny_bind (wpAny_seqItems hto htd (wpAny_pure hq))))
  unfold Builtin.«BaseException.__str__»
  repeat (first | with_reducible refine ha ?_ | wp_step)
  exact hq
theorem check_str_own {e : Addr} {m : Str} {tk : Tok} {Q : Unit → Shared → Prop} (I : Own55 s.heap) (x : OwnE s.heap e m tk) (hq : Q () s) : wpAny (model prog w) A (checkBuiltinCall "BaseException.__str__" ⟨[.ref e], []⟩) Q E s := by
  obtain ⟨o, vs, t0, hx, hc, hd, h0, ht⟩ := x
  obtain ⟨⟨k0, k1, k2, k3, k5, hC⟩, _⟩ := I
  have hk : builtinKind "BaseException.__str__" = some .slot := by decide +kernel
  have hsplit : splitId "BaseException.__str__" = some ("BaseException", "__str__") := by decide +kernel
  have hcB : (Value.ref 55 :: bmV).contains (.type "BaseException") = true := by decide
  have ha := F.args_bexc_str (.ref e)
  simp only [checkBuiltinCall, hk, hsplit]
  obtain ⟨hp, g, d, t, os⟩ := s
  refine wpAny_bind ?_
  · unfold isInstance
    repeat (first | (with_reducible refine wpAny_loadPart_at hx ?_; rw [hc]) | (with_reducible refine wpAny_isSubtype_exc hC ?_; rw [hcB]) | wp_step)
    exact hq
theorem call_str_own {e : Addr} {m : Str} {tk : Tok} {Q : Value → Shared → Prop} (I : Own55 s.heap) (x : OwnE s.heap e m tk) (hq : Q (.str m tk) s) :
    wpAny (model prog w) A (call (.builtin "BaseException.__str__") [.ref e]) Q E s :=
  wpAny_call (codeAny_call_builtin F.excStr_ValueError.str.plain F.entry_bexc_str (check_str_own I x (bexcStr_own x hq)))
theorem strOf_own {e : Addr} {m : Str} {tk : Tok} {Q : Value → Shared → Prop} (hu : A.units < cLine) (I : Own55 s.heap) (x : OwnE s.heap e m tk) (hq : Q (.str m tk) s) :
    wpAny (model prog w) A (Builtin.Str.strOf (.ref e)) Q E s := by
  have hsp : ∀ {Q : Option Value → Shared → Prop}, Q (some (.builtin "BaseException.__str__")) s → wpAny (model prog w) A (specialOf (.ref e) "__str__") Q E s := fun hq => by
    obtain ⟨o, vs, t0, hx, hc, hd, h0, ht⟩ := x
    obtain ⟨⟨k0, k1, k2, k3, k5, hC⟩, mN, hN, _, hs⟩ := I
    obtain ⟨hp, g, d, t, os⟩ := s
    unfold specialOf
    refine wpAny_bind ?_
    repeat (first | (with_reducible refine wpAny_loadPart_at hx ?_; rw [hc]) | wp_step)
    refine wpAny_typeLookup_exc hC hN F.excBase_ValueError.mroIs F.excStr_ValueError.str.lookup ?_
    rw [hs]
    exact hq
  have hcs : ∀ {Q : Option Value → Shared → Prop}, Q (some (.str m tk)) s → wpAny (model prog w) A (callSpecial? (.ref e) "__str__") Q E s := fun hq => by
    simp only [callSpecial?]
    refine wpAny_bind (hsp ?_)
    simp only [F.excStr_ValueError.str.bind]
    exact wpAny_holding (wpAny_bind (wpAny_pure (wpAny_bind (call_str_own I x (wpAny_pure hq)))))
  unfold Builtin.Str.strOf
  repeat (first | with_reducible refine wpAny_cRoomFor hu ?_ | with_reducible refine hcs ?_ | wp_step)
  exact hq
theorem str_own {e : Addr} {m : Str} {tk : Tok} {Q : Value → Shared → Prop} (hu : A.units + 2 < cLine) (I : Own55 s.heap) (x : OwnE s.heap e m tk) (h : Q (.str m tk) s) :
    wpAny (model prog w) A (call (.type "str") [.ref e]) Q E s :=
  callType_new F.called_str (by decide) (F.typeCall_str_1 _) (F.newCall_str_1 _) (fun obj => F.args_object_init_2 obj _) F.entry_str_new
    (meets_str_new (S := fun A' R s' => A'.units + 1 < cLine ∧ Own55 s'.heap ∧ OwnE s'.heap e m tk ∧ R (.ok (.ret (.str m tk))) s')
      fun _ _ A' _ _ hq => strOf_own (A := A'.in1) hq.1 hq.2.1 hq.2.2.1 hq.2.2.2)
    ⟨(show A.units + 1 + 1 < cLine from hu), I, x, typeIs_str _ _ _, h⟩
end
section
variable {w : World} {A : Around} {E : Value → Shared → Prop} {s : Shared} {mg mb : Str → Option Value} {outer : List Env}
theorem fly_lands {fl : Value} {M : Model} {h : Heap} {l : List Env} {e : Addr} {text : Str} {Q : Unit → Shared → Prop} (x : FlyAt fl h l e text s.heap)
    (k : ∀ h', FlyAt .none h l e text h' → Q () { s with heap := h' }) : wpAny M A (setFlight (.ref e) none) Q E s := by
  obtain ⟨base, t0, tt, ⟨f1, f2, f3, f4⟩, tu, k1, k2, k3, k4⟩ := x
  refine wpAny_setFlight_noneW f1 f3 f4 fun h' g1 g2 g3 g4 => k h' ⟨base, t0, tt, ⟨g1, f2, g2, g3⟩, ?_, k1, k2, ?_, k4⟩
  · exact tu.of_slots fun b o e n => ⟨o.slots, g4 b o e n⟩
  · exact up_frames k3 f3 fun b o e n => ⟨o.slots, g4 b o e n⟩
theorem FlyAt.own {fl : Value} {h h' : Heap} {l : List Env} {e : Addr} {text : Str} (x : FlyAt fl h l e text h') : ∃ tt, OwnE h' e text tt := by
  obtain ⟨base, t0, tt, ⟨f1, f2, f3, oe, vs, T, oT, ts, he, ⟨hcls, h0⟩, hd, _⟩, tu, k1, k2, k3, k4⟩ := x
  exact ⟨tt, oe, vs, t0, he, hcls, hd, h0, tu⟩
theorem OwnE.same {h h' : Heap} {e L : Addr} {text : Str} {tt : Tok} {m : Str → Option Value} (x : OwnE h e text tt) (n : h.Ns L m) (sb : Heap.SameBut L h h') : OwnE h' e text tt := by
  obtain ⟨o, vs, t0, ho, hc, hd, h0, ot, k, hto, hct, htd⟩ := x
  obtain ⟨on, es, ep, e', d, _⟩ := n
  have n1 : e ≠ L := fun q => by
    subst q
    obtain rfl := Option.some.inj (ho.symm.trans e')
    rw [d] at hd; cases hd
  have n2 : t0 ≠ L := fun q => by
    subst q
    obtain rfl := Option.some.inj (hto.symm.trans e')
    rw [d] at htd; cases htd
  exact ⟨o, vs, t0, (sb.2 _ n1).trans ho, hc, hd, h0, ot, k, (sb.2 _ n2).trans hto, hct, htd⟩
theorem Inv.own {h : Heap} (I : Inv w mg mb h) : Own55 h := ⟨I.cls, I.cns⟩
theorem cLine_big : 9000 < cLine := by decide +kernel

set_option maxHeartbeats 4000000 in
theorem asked_spec {n p : Nat} {x : Str} {t u : Tok} {Q : Value → Shared → Prop} (G : Gl mg mb) (R : Rm (n + 6) A outer) (I : Inv w mg mb s.heap) (T : Tab s.heap) (hF : s.heap.FunFrames {} outer)
    (hp : p ≤ x.length) (hx : x.length ≤ 100000)
    (hq : ∀ q, Skips x p (.inl q) → ∀ h' tk u', Keep (frs outer) s.heap h' → Q (.int (q : Int) u') { s with heap := h', toks := tk })
    (he : ∀ q c, Skips x p (.inr q) → x.cps[q]? = some c → ilC c = true → ∀ h' tk u', Keep (frs outer) s.heap h' → Q (.str (errText (msgOf c) x q) u') { s with heap := h', toks := tk }) :
    wpAny (model P0 w) A (call (.ref 119) [.str x t, .int p u]) Q E s := by
  refine enter (i := 17) (c := 118) (binds := [("text", .str x t), ("place", .int p u)]) R I (by decide) (fun pm => by rfl) (by exact locs rfl) fun L h₁ hL S R' => ?_
  have hFr : ∀ (m : Str → Option Value) h₂, St (frs outer) s.heap L m h₂ → h₂.FunFrames {} (ev 17 L 119 118 :: outer) := fun m h₂ S₂ => frames_in (i := 17) (a := 119) (c := 118) hF S₂ R.ne rfl
  refine wpAny_execs_cons (wpAny_Try_except (wpAny_execs_cons (wpAny_Return_some ?_)))
  refine Call_ (nmG G (S.inv I) rfl (callF (args_cons (nm S.ns rfl (args_cons (nm S.ns rfl (args_nil ⟨(S.inv I).isFn (i := 10) (c := 85) (by decide), ?_⟩)))))))
  refine skips_spec (n := n) G R' (S.inv I) (S.keep.2 T) (hFr _ _ S) hp hx (fun q hs h₂ tk₂ u₂ k₂ => ?_) fun q hs h₂ tk₂ c e hc hil fl => ?_
  · exact hq q hs _ _ _ (S.on' k₂).keep
  · refine fly_note (s := { s with heap := h₂, toks := tk₂ }) R'.fr rfl fl fun h₃ f₃ => ?_
    refine fly_lands (s := { s with heap := h₃, toks := tk₂ }) f₃ fun h₄ f₄ => ?_
    have S₄ := S.on' (L := L) (f₄.keep R'.lo)
    refine wpAny_handleBy_cons (codeAny_handlers_test ?_) (by intro q; cases q)
    refine nmG G (S₄.inv I) rfl ?_
    obtain ⟨tt, ow⟩ := f₄.own
    obtain ⟨oe, vs, t0, heo, hcls, _⟩ := id ow
    obtain ⟨k0, k1, k2, k3, k5, hC⟩ := (S₄.inv I).cls
    refine wpAny_excMatches_sub_self hC heo hcls (by decide) (codeAny_handlers_suite_as ?_)
    refine fly_lands (s := { s with heap := h₄, toks := tk₂ }) f₄ fun h₅ f₅ => ?_
    have S₅ := S.on' (L := L) (f₅.keep R'.lo)
    obtain ⟨tt, ow⟩ := f₅.own
    refine wpAny_storeName_local (s := { s with heap := h₅, toks := tk₂ }) (env := ev 17 L 119 118) rfl S₅.ns (fun h₆ hn₆ hs₆ => ?_) rfl
    have S₆ := S₅.store hn₆ hs₆
    refine wpAny_execs_cons (wpAny_Return_some (Call_ (nmB G (S₆.inv I) rfl (PyProof.Rows.callWith_type1 ?_))))
    refine args_cons (nm S₆.ns rfl (args_nil ?_))
    refine str_own (by have h1 : (A.deeper (ev 17 L 119 118)).units + 10 * (n + 5) ≤ 9000 := R'.un; have := cLine_big; show (A.deeper (ev 17 L 119 118)).units + 2 < cLine; omega) (S₆.inv I).own (ow.same S₅.ns hs₆) ?_
    refine wpAny_nameGoes (s := { s with heap := h₆, toks := _ }) (env := ev 17 L 119 118) (pos := _) rfl S₆.ns rfl fun h₇ m₇ hn₇ hs₇ => ?_
    exact he q c hs hc hil _ _ _ (S₆.store hn₇ hs₇).keep
end
end
section
open PySem PySem.W PyProof.Rows PySem.Calls PySem.Builtin PySem.Builtin.Str PySem.StrLaws
set_option maxRecDepth 100000
theorem Keep.ext {F : List Addr} {h₀ h h' : Heap} {a : Addr} (x : Keep F h₀ h) (n : h₀.get? a = Option.none) (s : Heap.ExtBut a h h') (l : Loose h a) : Keep F h₀ h' :=
  ⟨fun b o e q => by
    have ne : b ≠ a := fun z => by rw [z, n] at e; cases e
    refine ⟨fun f => s b o ne ((x.1 b o e q).1 f), ?_⟩
    obtain ⟨sl, e1⟩ := (x.1 b o e q).2
    exact ⟨sl, s b _ ne e1⟩, fun t => (x.2 t).of fun b o vs e d c => by
    by_cases q : b = a
    · subst q
      rcases l o e with l | ⟨l1, l2⟩
      · exact absurd d (l vs)
      · rcases c with c | c
        · exact absurd c l1
        · exact absurd c l2
    · exact s b o q e⟩
theorem St.ext {F : List Addr} {h₀ h h' : Heap} {L a : Addr} {m : Str → Option Value} (S : St F h₀ L m h) (n : h₀.get? a = none) (q : a ≠ L) (s : Heap.ExtBut a h h') (l : Loose h a) : St F h₀ L m h' :=
  ⟨S.ns.extBut s (Ne.symm q), S.keep.ext n s l, S.new, S.ne⟩

/-- all places but the frames' and the code table keep their objects -/
def KX (X : List Addr) (h h' : Heap) : Prop := ∀ b o, b ∉ X → h.get? b = some o → h'.get? b = some o
theorem KX.refl (X : List Addr) (h : Heap) : KX X h h := fun _ _ _ e => e
theorem KX.trans {X : List Addr} {h h' h'' : Heap} (x : KX X h h') (y : KX X h' h'') : KX X h h'' := fun b o q e => y b o q (x b o q e)
theorem KX.of {X : List Addr} {h h' : Heap} (k : ∀ b o, h.get? b = some o → h'.get? b = some o) : KX X h h' := fun b o _ e => k b o e
theorem KX.push {X : List Addr} (h : Heap) (o : Obj) : KX X h (h.push o) := .of fun _ _ e => Heap.get?_push_of_some o e
theorem KX.same {X : List Addr} {h h' : Heap} {a : Addr} (s : Heap.SameBut a h h') (q : a ∈ X) : KX X h h' := fun b o z e => (s.2 b fun y => z (y ▸ q)).trans e
theorem KX.ext {X : List Addr} {h h' : Heap} {a : Addr} (s : Heap.ExtBut a h h') (q : a ∈ X) : KX X h h' := fun b o z e => s b o (fun y => z (y ▸ q)) e
theorem KX.keep {F X : List Addr} {h h' : Heap} (k : Keep F h h') (q : ∀ b ∈ F, b ∈ X) (q8 : (88 : Addr) ∈ X) : KX X h h' := fun b o z e => (k.1 b o e fun y => z (y ▸ q8)).1 (.inl fun y => z (q b y))
theorem KX.mono {X Y : List Addr} {h h' : Heap} (k : KX X h h') (q : ∀ b ∈ X, b ∈ Y) : KX Y h h' := fun b o z e => k b o (fun y => z (q b y)) e
theorem KX.isList {X : List Addr} {h h' : Heap} {a : Addr} {items : Array Value} (k : KX X h h') (q : a ∉ X) (x : h.IsList a items) : h'.IsList a items := let ⟨o, e, r⟩ := x; ⟨o, k a o q e, r⟩
theorem KX.plain {X : List Addr} {h h' : Heap} {a : Addr} {items : Array Value} (k : KX X h h') (q : a ∉ X) (x : h.PlainList a items) : h'.PlainList a items := let ⟨n, e⟩ := x; ⟨n, k a _ q e⟩
theorem KX.listIter {X : List Addr} {h h' : Heap} {a l : Addr} {i : Nat} (k : KX X h h') (q : a ∉ X) (x : h.IsListIter a l i) : h'.IsListIter a l i := let ⟨o, e, r⟩ := x; ⟨o, k a o q e, r⟩

theorem loose_list {h : Heap} {a : Addr} {items : Array Value} (x : h.IsList a items) : Loose h a := let ⟨o, e, _, n, d⟩ := x; loose_data e fun vs q => by rw [d] at q; cases q
theorem loose_listIter {h : Heap} {a l : Addr} {i : Nat} (x : h.IsListIter a l i) : Loose h a := let ⟨o, e, c, _⟩ := x; loose_cls e c (by decide)
/-- the frames' places -/
abbrev XF (L : Addr) (outer : List Env) : List Addr := 88 :: L :: frs outer
theorem frs_some {h base : Heap} {l : List Env} (f : h.FunFrames base l) : ∀ b ∈ frs l, ∃ o, h.get? b = some o := fun b hb => let ⟨_, o', e', _⟩ := f.mem hb; ⟨o', e'⟩
/-- what was not there at the call is no frame of the callers' -/
theorem notIn_new {h₀ : Heap} {outer : List Env} {L a : Addr} (hF : h₀.FunFrames {} outer) (T : Tab h₀) (n : h₀.get? a = none) (q : a ≠ L) : a ∉ XF L outer := fun z => by
  rcases List.mem_cons.mp z with z | z
  · subst z
    obtain ⟨o, e⟩ := T.at
    rw [n] at e; cases e
  · rcases List.mem_cons.mp z with z | z
    · exact q z
    · obtain ⟨o, e⟩ := frs_some hF a z
      rw [n] at e; cases e
theorem ns_ne_list {h : Heap} {L a : Addr} {m : Str → Option Value} {items : Array Value} (n : h.Ns L m) (x : h.IsList a items) : a ≠ L := fun z => by
  subst z
  obtain ⟨o, es, ep, e, d, _⟩ := n
  obtain ⟨o', e', _, k, d'⟩ := x
  obtain rfl := Option.some.inj (e.symm.trans e')
  rw [d] at d'; cases d'

section
variable {w : World} {M : Model} {A : Around} {E : Value → Shared → Prop} {s : Shared} {env : Env}
theorem new_list {vs : List Value} {Q : Value → Shared → Prop} (h : Q (.ref s.heap.objs.size) { s with heap := s.heap.push { cls := .type "list", data := .seq vs.toArray } }) (hsz : vs.length ≤ sizeLine) : wpAny M A (newList vs) Q E s :=
  wpAny_newObj_type h (by show vs.toArray.size ≤ sizeLine; rw [List.size_toArray]; exact hsz)
theorem new_tuple {vs : List Value} {Q : Value → Shared → Prop} (h : Q (.ref s.heap.objs.size) { s with heap := s.heap.push { cls := .type "tuple", data := .seq vs.toArray } }) (hsz : vs.length ≤ sizeLine) : wpAny M A (newTuple vs) Q E s :=
  wpAny_newObj_type h (by show vs.toArray.size ≤ sizeLine; rw [List.size_toArray]; exact hsz)
theorem new_listS {F : List Addr} {h₀ : Heap} {L : Addr} {m : Str → Option Value} {vs : List Value} {Q : Value → Shared → Prop} (S : St F h₀ L m s.heap) (T : Tab h₀)
    (h : ∀ h' a, St F h₀ L m h' → (∀ b o, s.heap.get? b = some o → h'.get? b = some o) → h'.PlainList a vs.toArray → h₀.get? a = none → s.heap.get? a = none → Q (.ref a) { s with heap := h' }) (hsz : vs.length ≤ sizeLine) : wpAny M A (newList vs) Q E s :=
  new_list (h _ _ (S.keeps fun _ _ e => Heap.get?_push_of_some _ e) (fun _ _ e => Heap.get?_push_of_some _ e) ⟨_, Heap.get?_push_size _ rfl⟩ (S.keep.none T (Heap.get?_none_of_le (Nat.le_refl _))) (Heap.get?_none_of_le (Nat.le_refl _))) hsz
theorem new_tupleS {F : List Addr} {h₀ : Heap} {L : Addr} {m : Str → Option Value} {vs : List Value} {Q : Value → Shared → Prop} (S : St F h₀ L m s.heap) (T : Tab h₀)
    (h : ∀ h' a, St F h₀ L m h' → (∀ b o, s.heap.get? b = some o → h'.get? b = some o) → h'.IsTuple a vs.toArray → h₀.get? a = none → s.heap.get? a = none → Q (.ref a) { s with heap := h' }) (hsz : vs.length ≤ sizeLine) : wpAny M A (newTuple vs) Q E s :=
  new_tuple (h _ _ (S.keeps fun _ _ e => Heap.get?_push_of_some _ e) (fun _ _ e => Heap.get?_push_of_some _ e) ⟨_, Heap.get?_push_size _ rfl, rfl, _, rfl⟩ (S.keep.none T (Heap.get?_none_of_le (Nat.le_refl _))) (Heap.get?_none_of_le (Nat.le_refl _))) hsz
theorem plain_new {h : Heap} {vs : List Value} : (h.push { cls := .type "list", data := .seq vs.toArray }).PlainList h.objs.size vs.toArray := ⟨_, Heap.get?_push_size _ rfl⟩

theorem setItem_neg {l : Addr} {items : Array Value} {k : Int} {t : Tok} {v : Value} {Q : Unit → Shared → Prop} (hl : s.heap.IsList l items)
    (h0 : k < 0) (h1 : -(items.size : Int) ≤ k) (hfit : -(2 ^ 63) ≤ k)
    (hQ : ∀ h', h'.IsList l (items.setIfInBounds (k + items.size).toNat v) → Heap.SameBut l s.heap h' → Q () { s with heap := h' }) :
    wpAny (model P0 w) A (setItem (.ref l) (.int k t) v) Q E s := by
  obtain ⟨o, ho, hc, ne, hd⟩ := id hl
  unfold setItem
  try with_reducible refine wpAny_holding ?_
  first | refine wpAny_bind (wpAny_pure ?_) | skip
  refine wpAny_bind (wpAny_sequenceKey hl.typeIs (by decide) ?_)
  refine wpAny_bind (wpAny_callSpecial?_slot (name := Str.ofString "__setitem__") hl.typeIs slot_list_setitem
    (wpAny_call_entry slot_list_setitem hl.typeIs entry_list_setitem ?_ (args_list_setitem _ _ _)))
  show wpAny _ _ (Builtin.List.listSubscript? (.int k t) >>= _) _ _ s
  refine wpAny_bind (wpAny_listSubscript_int (fitsIndex_neg h0 hfit) ?_)
  clear hfit
  have hidx := PySem.seqIndex_neg h0 h1
  obtain ⟨i, hi⟩ : ∃ i : Nat, (k + items.size).toNat = i := ⟨_, rfl⟩
  have hj : i < items.size := by omega
  rw [hi] at hidx hQ
  have hx' : items[i]? = some items[i] := Array.getElem?_eq_getElem hj
  obtain ⟨j, rfl⟩ : ∃ j : Nat, k = Int.negSucc j := by
    cases k with
    | ofNat n => exact absurd h0 (Int.not_lt.mpr (Int.natCast_nonneg n))
    | negSucc n => exact ⟨n, rfl⟩
  show wpAny _ _ ((Builtin.List.listItems (.ref l) >>= fun xs => pure ((seqIndex? (Int.negSucc j) xs.size).bind fun i => xs[i]?.map (i, ·))) >>= _) _ _ s
  refine wpAny_bind (wpAny_bind ?_)
  show wpAny _ _ (seqItems? (.ref l) >>= _) _ _ s
  refine wpAny_bind (wpAny_seqItems ho hd (wpAny_pure (wpAny_pure ?_)))
  rw [hidx]
  simp only [Option.bind_some, hx', Option.map_some]
  obtain ⟨n', hd'⟩ := Obj.data_mapSeq hd (·.setIfInBounds i v)
  have hfin : (s.heap.update l (Obj.mapSeq (·.setIfInBounds i v))).IsList l (items.setIfInBounds i v) :=
    ⟨_, Heap.get?_update_self _ ho (Obj.isFreed_of_seq hd'), (Obj.cls_mapSeq ..).trans hc, n', hd'⟩
  refine wpAny_bind (wpAny_setSeqItemAt ho hd ?_)
  first
    | exact wpAny_bind (wpAny_pure (wpAny_pure ⟨.none, rfl, wpAny_pure (hQ _ hfin (Heap.SameBut.update ..))⟩))
    | exact wpAny_pure ⟨.none, rfl, wpAny_pure (hQ _ hfin (Heap.SameBut.update ..))⟩
theorem item_neg {value slice : Expr} {l : Addr} {items : Array Value} {k : Int} {u : Tok} {x : Value} {Q : Value → Shared → Prop} (hl : s.heap.IsList l items)
    (h0 : k < 0) (h1 : -(items.size : Int) ≤ k) (hfit : -(2 ^ 63) ≤ k) (hx : items[(k + items.size).toNat]? = some x) (h : Q x s)
    (hs : subscripted slice false (.ref l) (.int k u) = operate [.ref l, .int k u] (getItem (.ref l) (.int k u)) := by with_unfolding_all rfl) :
    wpAny (model P0 w) A (subscriptTail value slice (.ref l) (.int k u)) Q E s :=
  subscriptTail_builtinR hl.typeIs slot_list_getitem.lookup (wpAny_getItem_list_neg (Q := fun r s' => r = x ∧ Q r s') hl h0 h1 hfit hx ⟨rfl, h⟩) hs
end

/-- st_store, and what it leaves alone -/
theorem st_storeX {M : Model} {A : Around} {E : Value → Shared → Prop} {s : Shared} {env : Env} {F : List Addr} {h₀ : Heap} {m : Str → Option Value} {x : Str} {v : Value} {X : List Addr} {Q : Unit → Shared → Prop} (S : St F h₀ env.locals m s.heap) (hX : env.locals ∈ X)
    (h : ∀ h', St F h₀ env.locals (fun y => if y = x then some v else m y) h' → KX X s.heap h' → Q () { s with heap := h', toks := s.toks + 1 })
    (hk : env.scope.kind = .function := by rfl) (hl : env.kindOf x = some .local := by rfl) : wpAny M A (storeName env x v) Q E s :=
  wpAny_storeName_local hl S.ns (fun h' hn hs => h h' (S.store hn hs) (.same hs hX)) (by rw [hk]; rfl)

section
variable {w : World} {A : Around} {E : Value → Shared → Prop} {s : Shared} {env : Env}
theorem sub_slice {value : Expr} {lower upper : Option Expr} {p pos : Pos} {T id : String} {Q : Value → Shared → Prop}
    (hl : typeLookup (.type T) "__getitem__" = pure (some (.builtin id)))
    (h : wpAny (model P0 w) A (eval value env) (fun o s₁ => wpAny (model P0 w) A (eval (.Slice lower upper none p) env) (fun i s₂ => s₂.TypeIs o T ∧ wpAny (model P0 w) A (getItem o i) Q E s₂) E s₁) E s) :
    wpAny (model P0 w) A (eval (.Subscript value (.Slice lower upper none p) pos) env) Q E s := by
  rw [eval_Subscript]
  refine wpAny_bind (wpAny_mono h (fun o s₁ h₁ => wpAny_bind (wpAny_holding (wpAny_mono h₁ (fun i s₂ h₂ => wpAny_bind (wpAny_standAt ?_)) fun _ _ x => x)))
    fun _ _ x => x)
  have fin : wpAny (model P0 w) A (operate [i, o] (getItem o i)) (fun r s₃ => wpAny (model P0 w) A (letTemporaryGo value o r >>= fun _ => pure r) Q E s₃) E s₂ :=
    wpAny_operating (wpAny_mono h₂.2 (fun r s₃ h₃ => wpAny_bind (wpAny_letTemporaryGo (wpAny_pure h₃))) fun _ _ x => x)
  first
    | (refine wpAny_bind ?_
       rw [getitemInPython_of_ne h₂.1.not_modules]
       refine wpAny_bind (wpAny_specialOf h₂.1 hl ?_)
       first
         | exact wpAny_pure (wpAny_bind fin)
         | exact wpAny_bind (wpAny_pure (wpAny_bind fin))
         | exact wpAny_bind fin)
    | (refine wpAny_bind (wpAny_specialOf h₂.1 hl ?_)
       first
         | exact wpAny_bind (wpAny_pure (wpAny_bind fin))
         | exact wpAny_bind fin)
/-- a slice of a text, wherever it comes from -/
theorem slice_strR {value : Expr} {lower upper : Option Expr} {p pos : Pos} {Q : Value → Shared → Prop}
    (h : wpAny (model P0 w) A (eval value env) (fun o s₁ => wpAny (model P0 w) A (evalPart lower env) (fun vl s₂ => wpAny (model P0 w) A (evalPart upper env) (fun vu s₃ =>
      ∃ x t l u, o = .str x t ∧ vl = partValue l ∧ vu = partValue u ∧ x.length ≤ sizeLine ∧
        ∀ t' tk, Q (.str (Txt.slice x (l.map (·.1)) (u.map (·.1))) t') { s₃ with heap := s₃.heap.push { cls := .type "slice", data := .fields #[vl, vu, .none] }, toks := tk }) E s₂) E s₁) E s) :
    wpAny (model P0 w) A (eval (.Subscript value (.Slice lower upper none p) pos) env) Q E s := by
  refine sub_slice (T := "str") F.slot_str_getitem.lookup (wpAny_mono h (fun o s₁ h₁ => wpAny_Slice (wpAny_mono h₁ (fun vl s₂ h₂ => wpAny_mono h₂ (fun vu s₃ h₃ => ?_) fun _ _ e => e) fun _ _ e => e)) fun _ _ e => e)
  obtain ⟨x, t, l, u, rfl, rfl, rfl, hx, hq⟩ := h₃
  rw [evalPart_none]
  refine wpAny_pure ⟨typeIs_str _ x t, wpAny_getItem_str_slice (l := l) (u := u) (st := none) ⟨_, Heap.get?_push_size _ rfl, rfl, rfl⟩ rfl ?_⟩
  refine post_val_or_made (fun _ => ?_) fun t' k => hq t' k
  refine Nat.le_trans ?_ hx
  show ((slicePicked x l u none).filterMap (x.cps[·]?)).toArray.size ≤ _
  rw [List.size_toArray]
  exact Nat.le_trans (List.length_filterMap_le ..) (sliceIndices_le _ _ _)
end
end
section
open PySem PySem.W PyProof.Rows PySem.Calls PySem.Builtin PySem.Builtin.Str PySem.StrLaws
set_option maxRecDepth 100000
def Full (b : Str) : Prop := ∃ y, b.cps.toList = y ++ [10] ∧ 10 ∉ y
def LastL (b : Str) : Prop := Full b ∨ 10 ∉ b.cps.toList
def Lines : List Str → Prop
  | [] => True
  | [b] => LastL b
  | b :: c :: r => Full b ∧ Lines (c :: r)
structure GoodRows (rows : List (Str × Str)) : Prop where
  len : rows.length ≤ 9
  all : ∀ r ∈ rows, r.1.length = 2 ∧ r.2.length ≤ 8
  lines : Lines (rows.map (·.2))
def RowAt (h₀ h : Heap) (v : Value) (row : Str × Str) : Prop := ∃ a t u, v = .ref a ∧ h₀.get? a = none ∧ h.IsList a #[.str row.1 t, .str row.2 u]
def RowsAll (h₀ h : Heap) : List Value → List (Str × Str) → Prop
  | [], [] => True
  | v :: vs, r :: rs => RowAt h₀ h v r ∧ RowsAll h₀ h vs rs
  | _, _ => False
section
variable {w : World} {A : Around} {E : Value → Shared → Prop} {s : Shared} {mg mb : Str → Option Value} {outer : List Env}
def forBody : Stmt → List Stmt
  | .For _ _ b .. => b
  | _ => []
theorem fmod_pos (a b : Int) (hb : 0 ≤ b) : a.fmod b = a % b := Int.fmod_eq_emod_of_nonneg a hb
theorem fdiv_pos (a b : Int) (hb : 0 ≤ b) : a.fdiv b = a / b := Int.fdiv_eq_ediv_of_nonneg a hb
theorem hz2 {a b : Value} : [a, b].length ≤ sizeLine := by rw [sizeLine_eq]; simp only [List.length_cons, List.length_nil]; decide
theorem item5 {value slice : Expr} {l : Addr} {a b c d e : Str} {ta tb tc td te u : Tok} {k : Int} {Q : Value → Shared → Prop} (hl : s.heap.IsList l [.str a ta, .str b tb, .str c tc, .str d td, .str e te].toArray) (h0 : 0 ≤ k) (h5 : k < 5)
    (la : a.length = 2 := by decide +kernel) (lb : b.length = 2 := by decide +kernel) (lc : c.length = 2 := by decide +kernel) (ld : d.length = 2 := by decide +kernel) (le : e.length = 2 := by decide +kernel)
    (h : ∀ y ty, y.length = 2 → Q (.str y ty) s)
    (hs : subscripted slice false (.ref l) (.int k u) = operate [.ref l, .int k u] (getItem (.ref l) (.int k u)) := by with_unfolding_all rfl) :
    wpAny (model P0 w) A (subscriptTail value slice (.ref l) (.int k u)) Q E s := by
  have : k = 0 ∨ k = 1 ∨ k = 2 ∨ k = 3 ∨ k = 4 := by omega
  rcases this with rfl | rfl | rfl | rfl | rfl
  · exact item_listR hl h0 (by omega) rfl (h _ _ la) hs
  · exact item_listR hl h0 (by omega) rfl (h _ _ lb) hs
  · exact item_listR hl h0 (by omega) rfl (h _ _ lc) hs
  · exact item_listR hl h0 (by omega) rfl (h _ _ ld) hs
  · exact item_listR hl h0 (by omega) rfl (h _ _ le) hs
theorem chr_nat {c : Nat} {t : Tok} {Q : Value → Shared → Prop} (h1 : c ≤ 1114111) (h : Q (.str ⟨#[c]⟩ s.toks) { s with toks := s.toks + 1 }) : wpAny (model P0 w) A (call (.builtin "chr") [.int (c : Int) t]) Q E s :=
  chr_of_range (by omega) (by omega) (by rw [Int.toNat_natCast]; exact h)
def signsOf (c : Nat) : Str := Str.ofString "  \t" ++ ⟨#[c]⟩ ++ Str.ofString "##a=" ++ ⟨#[13]⟩ ++ ⟨#[12]⟩ ++ ⟨#[127]⟩ ++ ⟨#[8232]⟩
theorem len_sign (c : Nat) : (⟨#[c]⟩ : Str).length = 1 := rfl
theorem signs_len (c : Nat) : (signsOf c).length = 12 := by
  unfold signsOf
  simp only [Str.length_append, len_sign]
  have h1 : (Str.ofString "  \t").length = 3 := by decide +kernel
  have h2 : (Str.ofString "##a=").length = 4 := by decide +kernel
  omega
theorem signs_list (c : Nat) : (signsOf c).cps.toList = [32, 32, 9, c, 35, 35, 97, 61, 13, 12, 127, 8232] := rfl
theorem cps_append (a b : Str) : (a ++ b).cps.toList = a.cps.toList ++ b.cps.toList := by
  show (a.cps ++ b.cps).toList = _
  simp
theorem signs_no (c q d : Nat) (h : c ≠ 10) (e : (signsOf c).cps[q]? = some d) : d ≠ 10 := by
  have : d ∈ (signsOf c).cps.toList := Array.mem_toList_iff.mpr (Array.mem_of_getElem? e)
  rw [signs_list] at this
  simp at this
  omega
theorem sub_strI {value slice : Expr} {x : Str} {t u : Tok} {k : Int} {p : Nat} {Q : Value → Shared → Prop} (hA : A.handled = none) (hk : k = (p : Int)) (hp : p < x.length) (hx : p ≤ 1000000)
    (h1 : ∀ c, x.cps[p]? = some c → Q (.str ⟨#[c]⟩ s.toks) { s with toks := s.toks + 1 })
    (hs : subscripted slice false (.str x t) (.int k u) = operate [.str x t, .int k u] (getItem (.str x t) (.int k u)) := by with_unfolding_all rfl)
    (ht : ∀ r, letTemporaryGo value (.str x t) r = pure () := by intro _; with_unfolding_all rfl) :
    wpAny (model P0 w) A (subscriptTail value slice (.str x t) (.int k u)) Q E s := by
  subst hk
  exact sub_str hA hx (fun q => by omega) h1 hs ht

def Dig (n : Nat) (r : Int) : Prop := n ≤ 5 ∧ r * 12 ^ n < 248832
theorem Dig.zero {r : Int} (h : r < 248832) : Dig 0 r := ⟨Nat.zero_le _, by rw [Int.pow_zero, Int.mul_one]; exact h⟩
theorem Dig.le {n : Nat} {r : Int} (h : Dig n r) : n ≤ 5 := h.1
theorem Dig.next {n : Nat} {r : Int} (h : Dig n r) (h0 : 0 < r) : Dig (n + 1) (r / 12) := by
  obtain ⟨h1, h2⟩ := h
  refine ⟨?_, ?_⟩
  · rcases Nat.lt_or_eq_of_le h1 with q | rfl
    · exact q
    · have h2 : r * 248832 < 248832 := h2
      omega
  · have h3 : (0 : Int) ≤ 12 ^ n := Int.pow_nonneg (by decide)
    have h4 : r / 12 * 12 * 12 ^ n ≤ r * 12 ^ n := Int.mul_le_mul_of_nonneg_right (Int.ediv_mul_le r (by decide)) h3
    rw [Int.pow_succ, Int.mul_comm (12 ^ n) 12, ← Int.mul_assoc]
    exact Int.lt_of_le_of_lt h4 h2
set_option maxHeartbeats 4000000 in
theorem row_turn3 {n : Nat} {L r : Addr} {h₀ : Heap} {m : Str → Option Value} {c' : Nat} {rest : Int} {code : Str} {t u v ts : Tok} {vs : List Value} {Q : Flow → Shared → Prop} (G : Gl mg mb) (R : Rm n A (ev 15 L 107 106 :: outer)) (I : Inv w mg mb h₀) (T : Tab h₀) (hF : h₀.FunFrames {} outer)
    (S : St (frs outer) h₀ L m s.heap) (m1 : m "rows" = some (.ref r)) (m2 : m "signs" = some (.str (signsOf c') ts)) (m3 : m "rest" = some (.int rest u)) (m4 : m "code" = some (.str code v)) (m5 : m "body" = some (.str "" t)) (hc10 : c' ≠ 10) (hr0 : 0 ≤ rest) (hr1 : rest < 248832) (hco : code.length = 2)
    (p : s.heap.PlainList r vs.toArray) (hr : h₀.get? r = none) (hv : vs.length ≤ 10)
    (h : ∀ h' tk m' v row, St (frs outer) h₀ L m' h' → m' "rows" = some (.ref r) → m' "script" = m "script" → (∀ b o, b ∉ XF L outer → b ≠ r → s.heap.get? b = some o → h'.get? b = some o) → h'.PlainList r (vs ++ [v]).toArray →
      RowAt h₀ h' v row → row.1.length = 2 → row.2.length ≤ 8 → Full row.2 → Q .next { s with heap := h', toks := tk }) :
    wpAny (model P0 w) A (execs ((forBody ((fnBody (stmtAt 15)).getD 1 (.Pass ⟨0, 0, 0, 0⟩))).drop 6) (ev 15 L 107 106)) Q E s := by
  have hX : (ev 15 L 107 106).locals ∈ XF L outer := by show L ∈ XF L outer; simp
  have hrX : r ∉ XF L outer := notIn_new hF T hr (ns_ne_list S.ns p.isList)
  have hsl := signs_len c'
  refine wpAny_execs_cons (wpAny_While ?_)
  refine codeAny_whileLoop (fun k s' => ∃ rest' body h' tk m' tb tr, k = rest'.toNat ∧ 0 ≤ rest' ∧ Dig body.length rest' ∧ 10 ∉ body.cps.toList ∧ s' = { s with heap := h', toks := tk } ∧ St (frs outer) h₀ L m' h' ∧ KX (XF L outer) s.heap h' ∧
    m' "rows" = some (.ref r) ∧ m' "signs" = some (.str (signsOf c') ts) ∧ m' "rest" = some (.int rest' tr) ∧ m' "code" = some (.str code v) ∧ m' "body" = some (.str body tb) ∧ m' "script" = m "script") ?_ rest.toNat
    ⟨rest, "", s.heap, s.toks, m, t, u, rfl, hr0, Dig.zero hr1, by decide +kernel, rfl, S, .refl _ _, m1, m2, m3, m4, m5, rfl⟩
  rintro k s' ⟨rest', body, h', tk, m', tb, tr, rfl, hr0', hdig, hno, rfl, S', x', m1', m2', m3', m4', m5', m6'⟩
  refine wpAny_isTrue_Compare1 (nm S'.ns m3' (wpAny_Constant_int (gt_int (wpAny_truthy_bool ?_))))
  have hd5 := hdig.le
  by_cases hpos : rest' > 0
  · refine PySem.W.ite_pos (by simpa using hpos) ?_
    obtain ⟨q, hq⟩ : ∃ q : Nat, rest'.fmod 12 = q := Int.eq_ofNat_of_zero_le (by rw [fmod_pos _ _ (by decide)]; omega)
    have hq12 : q < 12 := by rw [fmod_pos _ _ (by decide)] at hq; omega
    refine wpAny_execs_cons (wpAny_Assign_Name (wpAny_BinOp (nm S'.ns m5' (Subscript_ (nm S'.ns m2' ?_)))))
    repeat walk_at "e"
    refine sub_strI R.hd hq (by omega) (by omega) fun c hc => ?_
    refine PyProof.Rows.add_str (fun t8 tk8 => ?_) (by rw [sizeLine_eq, len_sign]; omega)
    refine st_storeX (X := XF L outer) S' hX fun h₂ S₂ x₂ => ?_
    refine wpAny_execs_cons (wpAny_Assign_Name ?_)
    repeat walk_at "e"
    refine st_storeX (X := XF L outer) S₂ hX fun h₃ S₃ x₃ => wpAny_execs_nil ?_
    have hdiv : rest'.fdiv 12 = rest' / 12 := fdiv_pos _ _ (by decide)
    refine ⟨(rest'.fdiv 12).toNat, by rw [hdiv]; omega, rest'.fdiv 12, body ++ ⟨#[c]⟩, h₃, _, _, _, _, rfl, by rw [hdiv]; omega, ?_, ?_, rfl, S₃, (x'.trans x₂).trans x₃, m1', m2', rfl, m4', rfl, m6'⟩
    · rw [hdiv, Str.length_append, len_sign]
      exact hdig.next hpos
    · rw [cps_append]
      have := signs_no c' q c hc10 hc
      simp only [List.mem_append, not_or]
      exact ⟨hno, by simpa using fun z => this z.symm⟩
  · refine PySem.W.ite_neg (by simpa using hpos) (wpAny_execs_nil (wpAny_execs_cons (wpAny_Expr_any ?_)))
    refine MethodCall_ (nm S'.ns m1' ?_)
    obtain ⟨np, hnp⟩ := x'.plain hrX p
    refine getMethod_list_append hnp rfl rfl (callM (args_cons (List_ (args_cons (nm S'.ns m4' (args_cons (wpAny_BinOp (nm S'.ns m5' (Constant_str ?_)))))))))
    refine PyProof.Rows.add_str (fun t8 tk8 => args_nil ?_) (by rw [sizeLine_eq]; have : (Str.ofString "\n").length = 1 := (by decide +kernel); omega)
    refine new_listS S' T (fun h₂ a S₂ k₂ p₂ n₂ f₂ => args_nil ?_) hz2
    have p₃ : h₂.PlainList r vs.toArray := ⟨np, k₂ _ _ hnp⟩
    refine wpAny_list_append_plain p₃ (fun h₃ p₄ sb => wpAny_execs_nil ?_) (by rw [sizeLine_eq]; simp; omega)
    have har : a ≠ r := fun z => by
      subst z
      rw [f₂] at hnp
      cases hnp
    have S₃ : St (frs outer) h₀ L m' h₃ := S₂.ext hr (ns_ne_list S₂.ns p₃.isList) sb.extBut (loose_list p₃.isList)
    refine h h₃ _ m' (.ref a) (code, body ++ "\n") S₃ m1' m6' ?_ (by simpa using p₄) ?_ hco ?_ ?_
    · intro b o hb hbr e
      exact (sb.2 b hbr).trans (k₂ _ _ (x' b o hb e))
    · exact ⟨a, _, _, rfl, n₂, _, (sb.2 a har).trans (p₂.choose_spec), rfl, _, rfl⟩
    · show (body ++ Str.ofString "\n").length ≤ 8
      rw [Str.length_append]
      have : (Str.ofString "\n").length = 1 := by decide +kernel
      omega
    · exact ⟨body.cps.toList, cps_append _ _, hno⟩
end
end
section
open PySem PySem.W PyProof.Rows PySem.Calls PySem.Builtin PySem.Builtin.Str PySem.StrLaws
set_option maxRecDepth 100000
section
variable {w : World} {A : Around} {E : Value → Shared → Prop} {s : Shared} {mg mb : Str → Option Value} {outer : List Env}
set_option maxHeartbeats 4000000 in
theorem row_turn2 {n : Nat} {L r : Addr} {h₀ : Heap} {m : Str → Option Value} {low rest : Int} {code : Str} {t u v : Tok} {vs : List Value} {Q : Flow → Shared → Prop} (G : Gl mg mb) (R : Rm n A (ev 15 L 107 106 :: outer)) (I : Inv w mg mb h₀) (T : Tab h₀) (hF : h₀.FunFrames {} outer)
    (S : St (frs outer) h₀ L m s.heap) (m1 : m "rows" = some (.ref r)) (m2 : m "low" = some (.int low t)) (m3 : m "rest" = some (.int rest u)) (m4 : m "code" = some (.str code v)) (hl0 : 0 ≤ low) (hl1 : low < 31) (hr0 : 0 ≤ rest) (hr1 : rest < 248832) (hco : code.length = 2)
    (p : s.heap.PlainList r vs.toArray) (hr : h₀.get? r = none) (hv : vs.length ≤ 10)
    (h : ∀ h' tk m' v row, St (frs outer) h₀ L m' h' → m' "rows" = some (.ref r) → m' "script" = m "script" → (∀ b o, b ∉ XF L outer → b ≠ r → s.heap.get? b = some o → h'.get? b = some o) → h'.PlainList r (vs ++ [v]).toArray →
      RowAt h₀ h' v row → row.1.length = 2 → row.2.length ≤ 8 → Full row.2 → Q .next { s with heap := h', toks := tk }) :
    wpAny (model P0 w) A (execs ((forBody ((fnBody (stmtAt 15)).getD 1 (.Pass ⟨0, 0, 0, 0⟩))).drop 4) (ev 15 L 107 106)) Q E s := by
  have hX : (ev 15 L 107 106).locals ∈ XF L outer := by show L ∈ XF L outer; simp
  have hrX : r ∉ XF L outer := notIn_new hF T hr (ns_ne_list S.ns p.isList)
  obtain ⟨low, rfl⟩ := Int.eq_ofNat_of_zero_le hl0
  refine wpAny_execs_cons ?_
  refine wpAny_Assign_Name ?_
  refine wpAny_BinOp (wpAny_BinOp (wpAny_BinOp (wpAny_BinOp (wpAny_BinOp (wpAny_BinOp (Constant_str (Call_ (nmB G (S.inv I) rfl (PyProof.Rows.callWith_builtin1 (args_cons ?_))))))))))
  refine wpAny_mono (Q := fun v s' => ∃ (c : Nat) (t : Tok) (tk : Nat), v = .int (c : Int) t ∧ c ≠ 10 ∧ c < 32 ∧ s' = { s with toks := tk }) (IfExp_ (wpAny_isTrue_Compare1 ?_)) ?_ fun _ _ z => z
  · repeat walk_at "e"
    by_cases hlow : (low : Int) < 10
    · exact PySem.W.ite_pos (decide_eq_true hlow) (nm S.ns m2 ⟨low, _, _, rfl, by omega, by omega, rfl⟩)
    · refine PySem.W.ite_neg (by rw [decide_eq_false hlow]; decide) ?_
      repeat walk_at "e"
      exact ⟨low + 1, _, _, rfl, by omega, by omega, rfl⟩
  rintro v s' ⟨c', tc', tk₆, rfl, hc10, hc32, rfl⟩
  have hsl := signs_len c'
  unfold signsOf at hsl
  simp only [Str.length_append, len_sign] at hsl
  refine args_nil (chr_nat (by omega) ?_)
  refine PyProof.Rows.add_str (fun t7 tk7 => ?_) (by rw [sizeLine_eq]; simp only [Str.length_append, len_sign]; omega)
  refine Constant_str (PyProof.Rows.add_str (fun t8 tk8 => ?_) (by rw [sizeLine_eq]; simp only [Str.length_append, len_sign]; omega))
  refine Call_ (nmB G (S.inv I) rfl (PyProof.Rows.callWith_builtin1 (args_cons (wpAny_Constant_int (args_nil (chr_of_range (by decide) (by decide) ?_))))))
  refine PyProof.Rows.add_str (fun t9 tk9 => ?_) (by rw [sizeLine_eq]; simp only [Str.length_append, len_sign]; omega)
  refine Call_ (nmB G (S.inv I) rfl (PyProof.Rows.callWith_builtin1 (args_cons (wpAny_Constant_int (args_nil (chr_of_range (by decide) (by decide) ?_))))))
  refine PyProof.Rows.add_str (fun t9 tk9 => ?_) (by rw [sizeLine_eq]; simp only [Str.length_append, len_sign]; omega)
  refine Call_ (nmB G (S.inv I) rfl (PyProof.Rows.callWith_builtin1 (args_cons (wpAny_Constant_int (args_nil (chr_of_range (by decide) (by decide) ?_))))))
  refine PyProof.Rows.add_str (fun t9 tk9 => ?_) (by rw [sizeLine_eq]; simp only [Str.length_append, len_sign]; omega)
  refine Call_ (nmB G (S.inv I) rfl (PyProof.Rows.callWith_builtin1 (args_cons (wpAny_Constant_int (args_nil (chr_of_range (by decide) (by decide) ?_))))))
  refine PyProof.Rows.add_str (fun ts tk9 => ?_) (by rw [sizeLine_eq]; simp only [Str.length_append, len_sign]; omega)
  refine st_storeX (X := XF L outer) S hX fun h₂ S₂ x₂ => ?_
  refine wpAny_execs_cons (wpAny_Assign_Name (Constant_str (st_storeX (X := XF L outer) S₂ hX fun h₃ S₃ x₃ => ?_)))
  refine row_turn3 (s := { s with heap := h₃, toks := _ }) (n := n) (c' := c') (code := code) (ts := ts) G R I T hF S₃ m1 rfl m3 m4 rfl hc10 hr0 hr1 hco (p := (x₂.trans x₃).plain hrX p) hr hv fun h' tk m' v row a1 a2 a3 a4 a5 a6 a7 a8 a9 => ?_
  exact h h' tk m' v row a1 a2 a3 (fun b o hb hbr e => a4 b o hb hbr ((x₂.trans x₃) b o hb e)) a5 a6 a7 a8 a9
end
end
section
open PySem PySem.W PyProof.Rows PySem.Calls PySem.Builtin PySem.Builtin.Str PySem.StrLaws
set_option maxRecDepth 100000
section
variable {w : World} {A : Around} {E : Value → Shared → Prop} {s : Shared} {mg mb : Str → Option Value} {outer : List Env}
set_option maxHeartbeats 4000000 in
theorem row_turn {n : Nat} {L r : Addr} {h₀ : Heap} {m : Str → Option Value} {x : Int} {t : Tok} {vs : List Value} {Q : Flow → Shared → Prop} (G : Gl mg mb) (R : Rm n A (ev 15 L 107 106 :: outer)) (I : Inv w mg mb h₀) (T : Tab h₀) (hF : h₀.FunFrames {} outer)
    (S : St (frs outer) h₀ L m s.heap) (m1 : m "rows" = some (.ref r)) (m2 : m "x" = some (.int x t)) (p : s.heap.PlainList r vs.toArray) (hr : h₀.get? r = none) (hv : vs.length ≤ 10)
    (h : ∀ h' tk m' v row, St (frs outer) h₀ L m' h' → m' "rows" = some (.ref r) → m' "script" = m "script" → (∀ b o, b ∉ XF L outer → b ≠ r → s.heap.get? b = some o → h'.get? b = some o) → h'.PlainList r (vs ++ [v]).toArray →
      RowAt h₀ h' v row → row.1.length = 2 → row.2.length ≤ 8 → Full row.2 → Q .next { s with heap := h', toks := tk }) :
    wpAny (model P0 w) A (execs (forBody ((fnBody (stmtAt 15)).getD 1 (.Pass ⟨0, 0, 0, 0⟩))) (ev 15 L 107 106)) Q E s := by
  have hX : (ev 15 L 107 106).locals ∈ XF L outer := by show L ∈ XF L outer; simp
  have hrX : r ∉ XF L outer := notIn_new hF T hr (ns_ne_list S.ns p.isList)
  refine wpAny_execs_cons ?_
  refine wpAny_Assign_Name ?_
  refine wpAny_mono (Q := fun v s' => ∃ (u : Int) (t : Tok) (tk : Nat), v = .int u t ∧ 0 ≤ u ∧ s' = { s with toks := tk }) (IfExp_ ?_) ?_ fun _ _ z => z
  · refine wpAny_isTrue_Compare1 ?_
    repeat walk_at "m"
    by_cases hx : x ≥ 0
    · refine PySem.W.ite_pos (by simpa using hx) ?_
      repeat walk_at "e"
      exact ⟨_, _, _, rfl, by omega, rfl⟩
    · refine PySem.W.ite_neg (by simpa using hx) ?_
      repeat walk_at "e"
      exact ⟨_, _, _, rfl, by omega, rfl⟩
  rintro v s' ⟨u, tu, tk, rfl, hu0, rfl⟩
  refine st_storeX (X := XF L outer) S hX fun h₂ S₂ x₂ => ?_
  have hm5 : u.fmod 5 = u % 5 := fmod_pos _ _ (by decide)
  refine wpAny_execs_cons ?_
  refine wpAny_Assign_Name ?_
  refine Subscript_ ?_
  refine List_ ?_
  repeat walk_at "e"
  refine new_listS S₂ T (fun h₃ a₃ S₃ k₃ p₃ n₃ f₃ => ?_) (by rw [sizeLine_eq]; simp only [List.length_cons, List.length_nil]; decide)
  repeat walk_at "e"
  refine item5 p₃.isList (by omega) (by omega) (h := fun c tc hc => ?_)
  refine st_storeX (X := XF L outer) S₃ hX fun h₄ S₄ x₄ => ?_
  refine wpAny_execs_cons ?_
  refine wpAny_Assign_Name ?_
  repeat walk_at "e"
  refine st_storeX (X := XF L outer) S₄ hX fun h₅ S₅ x₅ => ?_
  refine wpAny_execs_cons ?_
  refine wpAny_Assign_Name ?_
  repeat walk_at "e"
  refine st_storeX (X := XF L outer) S₅ hX fun h₆ S₆ x₆ => ?_
  have hl1 : (u.fdiv 1244160).fmod 31 = (u.fdiv 1244160) % 31 := fmod_pos _ _ (by decide)
  have hl2 : (u.fdiv 5).fmod 248832 = (u.fdiv 5) % 248832 := fmod_pos _ _ (by decide)
  have hkx : KX (XF L outer) s.heap h₆ := (((x₂.trans (.of k₃)).trans x₄).trans x₅).trans x₆
  refine row_turn2 (s := { s with heap := h₆, toks := _ }) (n := n) G R I T hF S₆ m1 rfl rfl rfl (by omega) (by omega) (by omega) (by omega) hc (p := ?_) hr hv fun h' tk m' v row a1 a2 a3 a4 a5 a6 a7 a8 a9 => h h' tk m' v row a1 a2 a3 ?_ a5 a6 a7 a8 a9
  · exact hkx.plain hrX p
  · exact fun b o hb hbr e => a4 b o hb hbr (hkx b o hb e)
end
end
section
open PySem PySem.W PyProof.Rows PySem.Calls PySem.Builtin PySem.Builtin.Str PySem.StrLaws
set_option maxRecDepth 100000
def FullRow (r : Str × Str) : Prop := r.1.length = 2 ∧ r.2.length ≤ 8 ∧ Full r.2
theorem lines_full : ∀ (l : List Str), (∀ b ∈ l, Full b) → Lines l
  | [], _ => trivial
  | [b], h => .inl (h b (List.mem_cons_self ..))
  | b :: c :: r, h => ⟨h b (List.mem_cons_self ..), lines_full (c :: r) fun x hx => h x (List.mem_cons_of_mem _ hx)⟩
theorem lines_last : ∀ (l : List Str) (b : Str), (∀ b ∈ l, Full b) → LastL b → Lines (l ++ [b])
  | [], _, _, h => h
  | [a], b, h, hb => ⟨h a (List.mem_cons_self ..), hb⟩
  | a :: c :: r, b, h, hb => ⟨h a (List.mem_cons_self ..), lines_last (c :: r) b (fun x hx => h x (List.mem_cons_of_mem _ hx)) hb⟩
theorem RowsAll.kept {h₀ h h' : Heap} (k : ∀ a x t y u, h₀.get? a = none → h.IsList a #[.str x t, .str y u] → h'.IsList a #[.str x t, .str y u]) : ∀ {vs : List Value} {rows : List (Str × Str)}, RowsAll h₀ h vs rows → RowsAll h₀ h' vs rows
  | [], [], _ => trivial
  | v :: vs, r :: rs, ⟨⟨a, t, u, e, n, l⟩, x⟩ => ⟨⟨a, t, u, e, n, k _ _ _ _ _ n l⟩, RowsAll.kept k x⟩
  | [], _ :: _, x => x.elim
  | _ :: _, [], x => x.elim
theorem RowsAll.push {h₀ h : Heap} {v : Value} {row : Str × Str} : ∀ {vs : List Value} {rows : List (Str × Str)}, RowsAll h₀ h vs rows → RowAt h₀ h v row → RowsAll h₀ h (vs ++ [v]) (rows ++ [row])
  | [], [], _, y => ⟨y, trivial⟩
  | v :: vs, r :: rs, ⟨x, z⟩, y => ⟨x, RowsAll.push z y⟩
  | [], _ :: _, x, _ => x.elim
  | _ :: _, [], x, _ => x.elim
theorem RowsAll.len {h₀ h : Heap} : ∀ {vs : List Value} {rows : List (Str × Str)}, RowsAll h₀ h vs rows → vs.length = rows.length
  | [], [], _ => rfl
  | v :: vs, r :: rs, ⟨x, z⟩ => by simp [RowsAll.len z]
  | [], _ :: _, x => x.elim
  | _ :: _, [], x => x.elim
theorem RowsAll.last {h₀ h : Heap} : ∀ {vs : List Value} {rows : List (Str × Str)}, RowsAll h₀ h vs rows → vs ≠ [] → ∃ vs' v rows' row, vs = vs' ++ [v] ∧ rows = rows' ++ [row] ∧ RowsAll h₀ h vs' rows' ∧ RowAt h₀ h v row
  | [], _, _, n => (n rfl).elim
  | [v], [r], ⟨x, z⟩, _ => ⟨[], v, [], r, rfl, rfl, trivial, x⟩
  | [v], r :: r' :: rs, ⟨x, z⟩, _ => z.elim
  | v :: v' :: vs, r :: rs, ⟨x, z⟩, _ => by
    obtain ⟨vs', w, rows', row, e1, e2, z1, z2⟩ := RowsAll.last (vs := v' :: vs) z (by simp)
    exact ⟨v :: vs', w, r :: rows', row, by rw [e1]; rfl, by rw [e2]; rfl, ⟨x, z1⟩, z2⟩
  | _ :: _, [], x, _ => x.elim
theorem RowsAll.refs {h₀ h : Heap} : ∀ {vs : List Value} {rows : List (Str × Str)}, RowsAll h₀ h vs rows → ∀ v ∈ vs, ∃ a, v = .ref a
  | [], _, _, v, hv => by cases hv
  | v :: vs, r :: rs, ⟨⟨a, _, _, e, _⟩, z⟩, x, hx => by
    rcases List.mem_cons.mp hx with rfl | hx
    · exact ⟨a, e⟩
    · exact RowsAll.refs z x hx
  | _ :: _, [], x, _, _ => x.elim
/-- the rows' own list is none of the rows -/
theorem row_ne {h : Heap} {vs : List Value} {r a : Addr} {x y : Str} {t u : Tok} (hv : ∀ v ∈ vs, ∃ a, v = .ref a) (p : h.IsList r vs.toArray) (l : h.IsList a #[.str x t, .str y u]) : a ≠ r := fun z => by
  subst z
  obtain ⟨o, e, _, n, d⟩ := p
  obtain ⟨o', e', _, n', d'⟩ := l
  obtain rfl := Option.some.inj (e.symm.trans e')
  rw [d] at d'
  injection d' with d' _
  have : vs = [.str x t, .str y u] := by simpa using congrArg Array.toList d'
  subst this
  obtain ⟨b, e⟩ := hv _ (List.mem_cons_self ..)
  cases e
theorem cut_last (b : Str) (h : Full b) : 10 ∉ (Txt.slice b none (some (-1))).cps.toList := by
  obtain ⟨y, e, hy⟩ := h
  have hl : b.length = y.length + 1 := by
    show b.cps.size = _
    rw [← Array.length_toList, e]; simp
  have : Txt.slice b none (some (-1)) = ⟨((b.cps.toList.drop 0).take (-1 + b.length - 0 : Int).toNat).toArray⟩ := sliceText_to_neg (by decide) (by omega)
  rw [this, e, hl]
  have : ((-1 : Int) + ((y.length + 1 : Nat) : Int) - 0).toNat = y.length := by omega
  rw [this]
  simpa using hy
section
variable {w : World} {A : Around} {E : Value → Shared → Prop} {s : Shared} {mg mb : Str → Option Value} {outer : List Env}
set_option maxHeartbeats 4000000 in
theorem rows_rest {n : Nat} {L r sc : Addr} {h₀ : Heap} {m : Str → Option Value} {vs : List Value} {rows : List (Str × Str)} {items : Array Value} {Q : Flow → Shared → Prop} (G : Gl mg mb) (R : Rm n A (ev 15 L 107 106 :: outer)) (I : Inv w mg mb h₀) (T : Tab h₀) (hF : h₀.FunFrames {} outer)
    (S : St (frs outer) h₀ L m s.heap) (m1 : m "rows" = some (.ref r)) (m2 : m "script" = some (.ref sc)) (p : s.heap.IsList r vs.toArray) (hr : h₀.get? r = none) (ra : RowsAll h₀ s.heap vs rows) (hf : ∀ x ∈ rows, FullRow x) (hl : rows.length ≤ 9) (hne : vs ≠ [])
    (hsc : s.heap.IsList sc items) (hall : AllInts items)
    (h : ∀ h' tk vs rows, GoodRows rows → h'.IsList r vs.toArray → RowsAll h₀ h' vs rows → Keep (frs outer) h₀ h' → Q (.ret (.ref r)) { s with heap := h', toks := tk }) :
    wpAny (model P0 w) A (execs ((fnBody (stmtAt 15)).drop 2) (ev 15 L 107 106)) Q E s := by
  obtain ⟨xs, rfl⟩ := hall.items
  refine wpAny_execs_cons (wpAny_If (wpAny_isTrue_Compare1 (wpAny_BinOp (Call_ (nmB G (S.inv I) rfl (PyProof.Rows.callWith_builtin1 (args_cons (nm S.ns m2 (args_nil ?_)))))))))
  refine sum_intListG R.hd hsc fun h₂ tk₂ t₂ k₂ => ?_
  have S₂ := S.keeps k₂
  have p₂ : h₂.IsList r vs.toArray := let ⟨o, e, z⟩ := p; ⟨o, k₂ _ _ e, z⟩
  have ra₂ : RowsAll h₀ h₂ vs rows := ra.kept fun a x t y u _ ⟨o, e, z⟩ => ⟨o, k₂ _ _ e, z⟩
  have fin : ∀ (h₃ : Heap) tk vs rows, GoodRows rows → h₃.IsList r vs.toArray → RowsAll h₀ h₃ vs rows → St (frs outer) h₀ L m h₃ → wpAny (model P0 w) A (execs ((fnBody (stmtAt 15)).drop 3) (ev 15 L 107 106)) Q E { s with heap := h₃, toks := tk } := by
    intro h₃ tk vs rows g q ra₃ S₃
    exact wpAny_execs_cons (wpAny_Return_some (nm S₃.ns m1 (h h₃ _ vs rows g q ra₃ S₃.keep)))
  generalize preSum (numAt xs) xs.size = sm
  refine wpAny_Constant_int (PyProof.Rows.mod_int (by decide) (wpAny_Constant_int (eq_int (wpAny_truthy_bool ?_))))
  by_cases hodd : sm.fmod 2 = 1
  · refine PySem.W.ite_pos (by simpa using hodd) ?_
    obtain ⟨vs', v, rows', row, rfl, rfl, ra', a, ta, tb, rfl, hna, hla⟩ := ra₂.last hne
    have hidx : ((-1 : Int) + ((vs' ++ [Value.ref a]).toArray.size : Nat)).toNat = vs'.length := by simp; omega
    have hsz : -((vs' ++ [Value.ref a]).toArray.size : Int) ≤ -1 := by simp; omega
    have hat : (vs' ++ [Value.ref a]).toArray[((-1 : Int) + ((vs' ++ [Value.ref a]).toArray.size : Nat)).toNat]? = some (.ref a) := by rw [hidx]; simp
    have hfr := hf row (by simp)
    refine wpAny_execs_cons (wpAny_Assign_Subscript (List_ (args_cons (Subscript_ (Subscript_ (nm S₂.ns m1 (wpAny_UnaryOp (wpAny_Constant_int (PyProof.Rows.neg_int ?_)))))))))
    refine item_neg p₂ (by decide) hsz (by decide) hat (wpAny_Constant_int (item_listR hla (by decide) (by decide) rfl ?_))
    refine args_cons (slice_strR (Subscript_ (Subscript_ (nm S₂.ns m1 (wpAny_UnaryOp (wpAny_Constant_int (PyProof.Rows.neg_int ?_)))))))
    refine item_neg p₂ (by decide) hsz (by decide) hat (wpAny_Constant_int (item_listR hla (by decide) (by decide) rfl ?_))
    refine wpAny_evalPart_none (wpAny_evalPart_some (wpAny_UnaryOp (wpAny_Constant_int (PyProof.Rows.neg_int ?_))))
    refine ⟨row.2, _, none, some (_, _), rfl, rfl, rfl, by rw [sizeLine_eq]; have := hfr.2.1; omega, fun t' tk => args_nil ?_⟩
    refine new_listS (S₂.keeps fun b o e => Heap.get?_push_of_some _ e) T (fun h₃ a₃ S₃ k₃ p₃ n₃ f₃ => ?_) hz2
    have k₄ : ∀ b o, h₂.get? b = some o → h₃.get? b = some o := fun b o e => k₃ _ _ (Heap.get?_push_of_some _ e)
    have p₄ : h₃.IsList r (vs' ++ [Value.ref a]).toArray := let ⟨o, e, z⟩ := p₂; ⟨o, k₄ _ _ e, z⟩
    have ra₄ : RowsAll h₀ h₃ vs' rows' := ra'.kept fun a x t y u _ ⟨o, e, z⟩ => ⟨o, k₄ _ _ e, z⟩
    refine nm S₃.ns m1 (wpAny_UnaryOp (wpAny_Constant_int (PyProof.Rows.neg_int (setItem_neg p₄ (by decide) hsz (by decide) fun h₅ p₅ sb => ?_))))
    have hnr : a₃ ≠ r := row_ne (ra₂.refs) p₄ p₃.isList
    have S₅ : St (frs outer) h₀ L m h₅ := S₃.ext hr (ns_ne_list S₃.ns p₄) sb.extBut (loose_list p₄)
    refine wpAny_execs_nil ?_
    refine fin h₅ _ (vs' ++ [.ref a₃]) (rows' ++ [(row.1, Txt.slice row.2 none (some (-1)))]) ⟨by simpa using hl, ?_, ?_⟩ ?_ ?_ S₅
    · intro x hx
      rcases List.mem_append.mp hx with hx | hx
      · have := hf x (List.mem_append_left _ hx)
        exact ⟨this.1, this.2.1⟩
      · obtain rfl := List.mem_singleton.mp hx
        exact ⟨hfr.1, Nat.le_trans (Txt.slice_le _ _ _) hfr.2.1⟩
    · rw [List.map_append]
      refine lines_last _ _ (fun b hb => ?_) (.inr (cut_last _ hfr.2.2))
      obtain ⟨x, hx, rfl⟩ := List.mem_map.mp hb
      exact (hf x (List.mem_append_left _ hx)).2.2
    · rw [hidx] at p₅
      have : (vs' ++ [Value.ref a]).toArray.setIfInBounds vs'.length (.ref a₃) = (vs' ++ [Value.ref a₃]).toArray := by simp
      rw [← this]; exact p₅
    · have ra₅ : RowsAll h₀ h₅ vs' rows' := ra₄.kept fun a x t y u _ l => by
        have hn : a ≠ r := row_ne ra₂.refs p₄ l
        obtain ⟨o, e, z⟩ := l
        exact ⟨o, (sb.2 a hn).trans e, z⟩
      obtain ⟨o, e, z1, n, z2⟩ := p₃.isList
      exact ra₅.push ⟨a₃, _, _, rfl, n₃, o, (sb.2 a₃ hnr).trans e, z1, n, z2⟩
  · refine PySem.W.ite_neg (by simpa using hodd) (wpAny_execs_nil ?_)
    exact fin h₂ _ vs rows ⟨hl, fun x hx => ⟨(hf x hx).1, (hf x hx).2.1⟩, lines_full _ fun b hb => by obtain ⟨x, hx, rfl⟩ := List.mem_map.mp hb; exact (hf x hx).2.2⟩ p₂ ra₂ S₂
end
end
section
open PySem PySem.W PyProof.Rows PySem.Calls PySem.Builtin PySem.Builtin.Str PySem.StrLaws
set_option maxRecDepth 100000
theorem full_row (c b : Str) (y : List Nat) (h1 : c.length = 2) (h2 : b.cps.toList = y ++ [10]) (h3 : 10 ∉ y) (h4 : b.length ≤ 8) : FullRow (c, b) := ⟨h1, h4, y, h2, h3⟩
section
variable {w : World} {A : Around} {E : Value → Shared → Prop} {s : Shared} {mg mb : Str → Option Value} {outer : List Env}
theorem slice_list {env : Env} {value : Expr} {lower upper : Option Expr} {p pos : Pos} {Q : Value → Shared → Prop}
    (h : wpAny (model P0 w) A (eval value env) (fun o s₁ => wpAny (model P0 w) A (evalPart lower env) (fun vl s₂ => wpAny (model P0 w) A (evalPart upper env) (fun vu s₃ =>
      ∃ l items lo hi, o = .ref l ∧ s₃.heap.IsList l items ∧ items.size ≤ sizeLine ∧ IsPart vl lo ∧ IsPart vu hi ∧
        ∀ h' a, (∀ b o, s₃.heap.get? b = some o → h'.get? b = some o) → h'.PlainList a (slicePick items lo hi none) → s₃.heap.get? a = none → Q (.ref a) { s₃ with heap := h' }) E s₂) E s₁) E s)
    (ht : ∀ o r, letTemporaryGo value o r = pure () := by intro _ _; rfl) :
    wpAny (model P0 w) A (eval (.Subscript value (.Slice lower upper none p) pos) env) Q E s := by
  refine wpAny_Subscript_list_slice (wpAny_mono h (fun o s₁ h₁ => wpAny_mono h₁ (fun vl s₂ h₂ => wpAny_mono h₂ (fun vu s₃ h₃ => ?_) fun _ _ e => e) fun _ _ e => e) fun _ _ e => e) ht
  obtain ⟨l, items, lo, hi, e, hl, hsz, pl, pu, hq⟩ := h₃
  have this := Heap.get?_push_size (s₃.heap.push { cls := .type "slice", data := .fields #[vl, vu, .none] }) (o := { cls := .type "list", data := .seq (slicePick items lo hi none) }) rfl
  rw [Heap.size_push] at this
  exact ⟨l, items, lo, hi, e, hl, hsz, pl, pu, hq _ _ (fun b o e => Heap.get?_push_of_some _ (Heap.get?_push_of_some _ e)) ⟨_, this⟩ (Heap.get?_none_of_le (Nat.le_succ _))⟩
set_option maxHeartbeats 4000000 in
theorem rows_loop {n : Nat} {L r sc : Addr} {h₀ : Heap} {m : Str → Option Value} {vs : List Value} {rows : List (Str × Str)} {items : Array Value} {Q : Flow → Shared → Prop} (G : Gl mg mb) (R : Rm n A (ev 15 L 107 106 :: outer)) (I : Inv w mg mb h₀) (T : Tab h₀) (hF : h₀.FunFrames {} outer)
    (S : St (frs outer) h₀ L m s.heap) (m1 : m "rows" = some (.ref r)) (m2 : m "script" = some (.ref sc)) (p : s.heap.PlainList r vs.toArray) (hr : h₀.get? r = none) (ra : RowsAll h₀ s.heap vs rows) (hf : ∀ x ∈ rows, FullRow x) (hl : rows.length = 3)
    (hsc : s.heap.IsList sc items) (hss : sc ∉ XF L outer) (hsr : sc ≠ r) (hall : AllInts items) (hsz : items.size ≤ 63)
    (h : ∀ h' tk vs rows, GoodRows rows → h'.IsList r vs.toArray → RowsAll h₀ h' vs rows → Keep (frs outer) h₀ h' → Q (.ret (.ref r)) { s with heap := h', toks := tk }) :
    wpAny (model P0 w) A (execs ((fnBody (stmtAt 15)).drop 1) (ev 15 L 107 106)) Q E s := by
  have hX : (ev 15 L 107 106).locals ∈ XF L outer := by show L ∈ XF L outer; simp
  have hrX : r ∉ XF L outer := notIn_new hF T hr (ns_ne_list S.ns p.isList)
  refine wpAny_execs_cons (wpAny_For (slice_list (nm S.ns m2 (wpAny_evalPart_none (wpAny_evalPart_some (wpAny_Constant_int ?_))))))
  refine ⟨sc, items, none, some 6, rfl, hsc, by rw [sizeLine_eq]; omega, .none, .int _ _, fun h₂ sl k₂ p₂ f₂ => ?_⟩
  rw [show slicePick items none (some 6) none = (items.toList.take 6).toArray from slicePick_upto' items 6] at p₂
  obtain ⟨ns, hns⟩ : ∃ ns, ns = items.toList.take 6 := ⟨_, rfl⟩
  have hnl : ns.length ≤ 6 := by rw [hns]; exact List.length_take_le ..
  have hni : ∀ v ∈ ns, ∃ a t, v = .int a t := fun v hv => hall v (by rw [hns] at hv; exact Array.mem_toList_iff.mp (List.mem_of_mem_take hv))
  rw [← hns] at p₂
  have S₂ := S.keeps k₂
  have hsl0 : h₀.get? sl = none := S.keep.none T f₂
  refine wpAny_pyIter_list p₂.isList ?_
  obtain ⟨It, hIt⟩ : ∃ It, It = h₂.objs.size := ⟨_, rfl⟩
  obtain ⟨h₃, hh₃⟩ : ∃ h₃, h₃ = h₂.push { cls := .type "list_iterator", data := .fields #[.ref sl, .int 0 0] } := ⟨_, rfl⟩
  have f₃ : h₂.get? It = none := by rw [hIt]; exact Heap.get?_none_of_le (Nat.le_refl _)
  have k₃ : ∀ b o, h₂.get? b = some o → h₃.get? b = some o := by rw [hh₃]; exact fun b o e => Heap.get?_push_of_some _ e
  have it₃ : h₃.IsListIter It sl 0 := by rw [hh₃, hIt]; exact ⟨_, Heap.get?_push_size _ rfl, rfl, rfl⟩
  rw [← hIt, ← hh₃]
  have S₃ := S₂.keeps k₃
  have hIt0 : h₀.get? It = none := S₂.keep.none T f₃
  have hIL : It ≠ L := fun z => by
    obtain ⟨o, _, _, e, _⟩ := S₂.ns
    rw [z] at f₃; rw [f₃] at e; cases e
  have hslL : sl ≠ L := ns_ne_list S₂.ns p₂.isList
  have hItX := notIn_new hF T hIt0 hIL
  have hslX := notIn_new hF T hsl0 hslL
  have hslIt : sl ≠ It := fun z => by
    obtain ⟨n, e⟩ := p₂
    rw [z, f₃] at e; cases e
  have hrIt : r ≠ It := fun z => by
    obtain ⟨n, e⟩ := p
    have := k₂ _ _ e
    rw [z, f₃] at this; cases this
  have hslr : sl ≠ r := fun z => by
    obtain ⟨n, e⟩ := p
    rw [z, e] at f₂; cases f₂
  have hscIt : sc ≠ It := fun z => by
    obtain ⟨o, e, _⟩ := hsc
    have := k₂ _ _ e
    rw [z, f₃] at this; cases this
  refine codeAny_forLoop (fun k s' => ∃ i h' tk m' vs' rows', k = ns.length - i ∧ i ≤ ns.length ∧ s' = { s with heap := h', toks := tk } ∧ St (frs outer) h₀ L m' h' ∧ m' "rows" = some (.ref r) ∧ m' "script" = some (.ref sc) ∧
    h'.PlainList r vs'.toArray ∧ RowsAll h₀ h' vs' rows' ∧ (∀ x ∈ rows', FullRow x) ∧ rows'.length = 3 + i ∧ h'.IsList sc items ∧ h'.IsList sl ns.toArray ∧ h'.IsListIter It sl i) ?_ ns.length
    ⟨0, h₃, s.toks + 1, m, vs, rows, rfl, Nat.zero_le _, rfl, S₃, m1, m2, ?_, ?_, hf, hl, ?_, ?_, it₃⟩
  rotate_left
  · obtain ⟨n, e⟩ := p
    exact ⟨n, k₃ _ _ (k₂ _ _ e)⟩
  · exact ra.kept fun a x t y u _ ⟨o, e, z⟩ => ⟨o, k₃ _ _ (k₂ _ _ e), z⟩
  · obtain ⟨o, e, z⟩ := hsc
    exact ⟨o, k₃ _ _ (k₂ _ _ e), z⟩
  · obtain ⟨o, e, z⟩ := p₂.isList
    exact ⟨o, k₃ _ _ e, z⟩
  rintro k s' ⟨i, h', tk, m', vs', rows', rfl, hi, rfl, S', m1', m2', p', ra', hf', hl', hsc', hsl', it'⟩
  have hvl := ra'.len
  by_cases hend : i = ns.length
  · subst hend
    refine wpAny_pyNext_list_end R.hd it' hsl' (by simp) fun h₄ x₄ => ?_
    have S₄ : St (frs outer) h₀ L m' h₄ := S'.ext hIt0 hIL x₄ (loose_listIter it')
    refine wpAny_execs_nil ?_
    refine rows_rest (s := { s with heap := h₄, toks := _ }) (n := n) (vs := vs') (rows := rows') G R I T hF S₄ m1' m2' ?_ hr ?_ hf' (by omega) ?_ ?_ hall fun h₅ tk₅ vs₅ rows₅ g p₅ ra₅ kp => h h₅ tk₅ vs₅ rows₅ g p₅ ra₅ kp
    · obtain ⟨o, e, z⟩ := p'.isList
      exact ⟨o, x₄ _ _ hrIt e, z⟩
    · refine ra'.kept fun a x t y u _ ⟨o, e, c, z⟩ => ⟨o, x₄ _ _ (fun q => ?_) e, c, z⟩
      subst q
      obtain ⟨o', e', c', _⟩ := it'
      obtain rfl := Option.some.inj (e.symm.trans e')
      rw [c] at c'; exact absurd c' (by simp)
    · intro q
      subst q
      simp at hvl
      omega
    · obtain ⟨o, e, z⟩ := hsc'
      exact ⟨o, x₄ _ _ hscIt e, z⟩
  · have hlt : i < ns.length := by omega
    obtain ⟨a, t, hv⟩ := hni _ (List.getElem_mem hlt)
    have hat : ns.toArray[i]? = some (.int a t) := by rw [List.getElem?_toArray, List.getElem?_eq_getElem hlt, hv]
    refine wpAny_pyNext_list_item it' hsl' hat fun h₄ it₄ x₄ => ?_
    have S₄ : St (frs outer) h₀ L m' h₄ := S'.ext hIt0 hIL x₄.extBut (loose_listIter it')
    refine wpAny_assign_Name (st_storeX (s := { s with heap := h₄, toks := _ }) (X := XF L outer) S₄ hX fun h₅ S₅ x₅ => ?_)
    have hk5 : ∀ b o, b ∉ XF L outer → b ≠ It → h'.get? b = some o → h₅.get? b = some o := fun b o q q' e => x₅ b o q ((x₄.2 b q').trans e)
    have p₅ : h₅.PlainList r vs'.toArray := let ⟨n, e⟩ := p'; ⟨n, hk5 _ _ hrX hrIt e⟩
    refine row_turn (s := { s with heap := h₅, toks := _ }) (n := n) G R I T hF S₅ m1' rfl p₅ hr (by omega) fun h₆ tk₆ m₆ v row S₆ m1₆ m2₆ k₆ p₆ r₆ c₆ l₆ fu₆ => ?_
    have hk6 : ∀ b o, b ∉ XF L outer → b ≠ It → b ≠ r → h'.get? b = some o → h₆.get? b = some o := fun b o q q' q'' e => k₆ b o q q'' (hk5 b o q q' e)
    refine ⟨ns.length - (i + 1), by omega, i + 1, h₆, _, m₆, vs' ++ [v], rows' ++ [row], rfl, hlt, rfl, S₆, m1₆, m2₆.trans m2', p₆, ?_, ?_, by simp; omega, ?_, ?_, ?_⟩
    · refine RowsAll.push (ra'.kept fun a x t y u hn l => ?_) r₆
      have q1 : a ∉ XF L outer := notIn_new hF T hn (ns_ne_list S'.ns l)
      have q2 : a ≠ r := row_ne ra'.refs p'.isList l
      have q3 : a ≠ It := fun q => by
        subst q
        obtain ⟨o', e', c', _⟩ := it'
        obtain ⟨o, e, c, _⟩ := l
        obtain rfl := Option.some.inj (e.symm.trans e')
        rw [c] at c'; exact absurd c' (by simp)
      obtain ⟨o, e, z⟩ := l
      exact ⟨o, hk6 _ _ q1 q3 q2 e, z⟩
    · intro x hx
      rcases List.mem_append.mp hx with hx | hx
      · exact hf' x hx
      · obtain rfl := List.mem_singleton.mp hx
        exact ⟨c₆, l₆, fu₆⟩
    · obtain ⟨o, e, z⟩ := hsc'
      exact ⟨o, hk6 _ _ hss hscIt hsr e, z⟩
    · obtain ⟨o, e, z⟩ := hsl'
      exact ⟨o, hk6 _ _ hslX hslIt hslr e, z⟩
    · obtain ⟨o, e, z⟩ := it₄
      exact ⟨o, k₆ _ _ hItX (Ne.symm hrIt) (x₅ _ _ hItX e), z⟩

end
end
section
open PySem PySem.W PyProof.Rows PySem.Calls PySem.Builtin PySem.Builtin.Str PySem.StrLaws
set_option maxRecDepth 100000
section
variable {w : World} {A : Around} {E : Value → Shared → Prop} {s : Shared} {mg mb : Str → Option Value} {outer : List Env}
theorem list_not88 {h : Heap} {a : Addr} {items : Array Value} (T : Tab h) (l : h.IsList a items) : a ≠ 88 := fun z => by
  subst z
  obtain ⟨ps, _, ht, _⟩ := T
  obtain ⟨o, e, c, _⟩ := l
  have := ht.2
  obtain rfl := Option.some.inj (e.symm.trans this)
  cases c
set_option maxHeartbeats 4000000 in
theorem rows_spec {n : Nat} {sc : Addr} {items : Array Value} {Q : Value → Shared → Prop} (G : Gl mg mb) (R : Rm (n + 1) A outer) (I : Inv w mg mb s.heap) (T : Tab s.heap) (hF : s.heap.FunFrames {} outer)
    (hsc : s.heap.IsList sc items) (hsf : sc ∉ frs outer) (hall : AllInts items) (hsz : items.size ≤ 63)
    (h : ∀ h' tk r vs rows, GoodRows rows → s.heap.get? r = none → h'.IsList r vs.toArray → RowsAll s.heap h' vs rows → Keep (frs outer) s.heap h' → Q (.ref r) { s with heap := h', toks := tk }) :
    wpAny (model P0 w) A (call (.ref 107) [.ref sc]) Q E s := by
  refine enter (i := 15) (c := 106) (binds := [("script", .ref sc)]) R I (by decide) (fun pm => by rfl) (by exact locs rfl) fun L h₁ hL S R' => ?_
  have hX : (ev 15 L 107 106).locals ∈ XF L outer := by show L ∈ XF L outer; simp
  have hsX : sc ∉ XF L outer := by
    simp only [List.mem_cons, not_or]
    refine ⟨list_not88 T hsc, fun z => ?_, hsf⟩
    obtain ⟨o, e, _⟩ := hsc
    rw [z, S.new] at e; cases e
  have hsc₁ : h₁.IsList sc items := by
    obtain ⟨o, e, z⟩ := hsc
    exact ⟨o, (S.keep.1 _ _ e (by simp only [List.mem_cons, not_or] at hsX; exact hsX.1)).1 (.inl hsf), z⟩
  refine wpAny_execs_cons ?_
  refine wpAny_Assign_Name ?_
  refine List_ ?_
  refine args_cons ?_
  refine List_ ?_
  refine args_cons ?_
  refine Constant_str ?_
  refine args_cons ?_
  refine Constant_str ?_
  refine args_nil ?_
  refine new_listS S T (fun h₂ a₁ S₂ k₂ p₂ n₂ f₂ => ?_) hz2
  refine args_cons ?_
  refine List_ ?_
  refine args_cons ?_
  refine Constant_str ?_
  refine args_cons ?_
  refine wpAny_BinOp ?_
  refine wpAny_BinOp ?_
  refine Constant_str ?_
  refine Call_ ?_
  refine nmB G (S₂.inv I) rfl ?_
  refine PyProof.Rows.callWith_builtin1 ?_
  refine args_cons ?_
  refine wpAny_Constant_int ?_
  refine args_nil ?_
  refine chr_of_range (by decide) (by decide) ?_
  refine PyProof.Rows.add_str (fun _ _ => ?_) (by decide +kernel)
  refine Constant_str ?_
  refine PyProof.Rows.add_str (fun _ _ => ?_) (by decide +kernel)
  refine args_nil ?_
  refine new_listS S₂ T (fun h₃ a₂ S₃ k₃ p₃ n₃ f₃ => ?_) hz2
  refine args_cons ?_
  refine List_ ?_
  refine args_cons ?_
  refine Constant_str ?_
  refine args_cons ?_
  refine wpAny_BinOp ?_
  refine Call_ ?_
  refine nmB G (S₃.inv I) rfl ?_
  refine PyProof.Rows.callWith_builtin1 ?_
  refine args_cons ?_
  refine wpAny_Constant_int ?_
  refine args_nil ?_
  refine chr_of_range (by decide) (by decide) ?_
  refine Constant_str ?_
  refine PyProof.Rows.add_str (fun _ _ => ?_) (by decide +kernel)
  refine args_nil ?_
  refine new_listS S₃ T (fun h₄ a₃ S₄ k₄ p₄ n₄ f₄ => ?_) hz2
  refine args_nil ?_
  refine new_listS S₄ T (fun h₅ r S₅ k₅ p₅ n₅ f₅ => ?_) (by rw [sizeLine_eq]; simp only [List.length_cons, List.length_nil]; decide)
  refine st_storeX (X := XF L outer) S₅ hX fun h₆ S₆ x₆ => ?_
  have hn : ∀ {a : Addr} {items : Array Value}, s.heap.get? a = none → h₅.IsList a items → h₆.IsList a items := fun hn l => x₆.isList (notIn_new hF T hn (ns_ne_list S₅.ns l)) l
  have q₂ := hn n₂ (p₂.isList.at fun o e => k₅ _ _ (k₄ _ _ (k₃ _ _ e)))
  have q₃ := hn n₃ (p₃.isList.at fun o e => k₅ _ _ (k₄ _ _ e))
  have q₄ := hn n₄ (p₄.isList.at fun o e => k₅ _ _ e)
  refine rows_loop (s := { s with heap := h₆, toks := _ }) (n := n) (rows := [(Str.ofString "  ", Str.ofString "\t#a\n"), (Str.ofString "- ", Str.ofString "# " ++ ⟨#[13]⟩ ++ Str.ofString "\n"), (Str.ofString "+ ", ⟨#[127]⟩ ++ Str.ofString "\n")]) G R' I T hF S₆ rfl rfl
    (x₆.plain (notIn_new hF T n₅ (ns_ne_list S₅.ns p₅.isList)) p₅) n₅ ⟨⟨a₁, _, _, rfl, n₂, q₂⟩, ⟨a₂, _, _, rfl, n₃, q₃⟩, ⟨a₃, _, _, rfl, n₄, q₄⟩, trivial⟩ ?_ rfl ?_ hsX ?_ hall hsz
    fun h' tk vs rows g p' ra kp => h h' tk r vs rows g n₅ p' ra kp
  · intro x hx
    simp only [List.mem_cons, List.not_mem_nil, or_false] at hx
    rcases hx with rfl | rfl | rfl
    · exact full_row _ _ [9, 35, 97] (by decide +kernel) (by decide +kernel) (by decide) (by decide +kernel)
    · exact full_row _ _ [35, 32, 13] (by decide +kernel) (by decide +kernel) (by decide) (by decide +kernel)
    · exact full_row _ _ [127] (by decide +kernel) (by decide +kernel) (by decide) (by decide +kernel)
  · obtain ⟨o, e, z⟩ := hsc₁
    exact x₆.isList hsX ⟨o, k₅ _ _ (k₄ _ _ (k₃ _ _ (k₂ _ _ e))), z⟩
  · intro z
    obtain ⟨o, e, _⟩ := hsc
    rw [z, n₅] at e; cases e
end
end
section
open PySem PySem.W PyProof.Rows PySem.Calls PySem.Builtin PySem.Builtin.Str PySem.StrLaws
set_option maxRecDepth 100000
/-- the frame of a def with cells -/
abbrev evC (i : Nat) (L a c : Addr) : Env := newEnv (fnScope (stmtAt i)) L 3 (cellsFrom (L + 1) (fnScope (stmtAt i)).names []) (fnName (stmtAt i) ++ ".<locals>.") (some a) (.ref c) none 0
section
variable {w : World} {A : Around} {E : Value → Shared → Prop} {s : Shared} {mg mb : Str → Option Value} {outer : List Env}
theorem enterC {n : Nat} {i : Nat} {a c : Addr} {args : List Value} {binds : List (Str × Value)} {Q : Value → Shared → Prop}
    (R : Rm (n + 1) A outer) (I : Inv w mg mb s.heap) (hf : (i, a, c) ∈ fns)
    (hbind : ∀ pm, bindArgs (fd i pm (.ref c)) ⟨args, []⟩ = pure binds)
    (hkind : ∀ L : Addr, ∀ x ∈ binds, (fnScope (stmtAt i)).names.lookup x.1 = some .local ∨ ((fnScope (stmtAt i)).names.lookup x.1 = some .cell ∧ ((cellsFrom (L + 1) (fnScope (stmtAt i)).names []).lookup x.1).isSome = true))
    (h : ∀ L h₁ tk, L ≠ 88 → L = s.heap.objs.size → St (frs outer) s.heap L (bindL (evC i L a c).kindOf binds fun _ => none) h₁ →
      (∀ n x, (evC i L a c).cells.lookup n = some x → h₁.IsCell x (bindC (evC i L a c).kindOf binds (fun _ => none) n)) →
      Rm n (A.deeper (evC i L a c)) (evC i L a c :: outer) →
      wpAny (model P0 w) (A.deeper (evC i L a c)) (execs (fnBody (stmtAt i)) (evC i L a c))
        (fun f s' => Q (match f with | .ret v => v | _ => .none) s')
        (fun e s' => wpAny (model P0 w) (A.deeper (evC i L a c)) (leaving (evC i L a c) e) (fun _ s'' => E e s'') E s')
        { s with heap := h₁, toks := tk })
    (hco : (fnScope (stmtAt i)).isCoroutine = false := by rfl) (hgen : (fnScope (stmtAt i)).isGenerator = false := by rfl) (hk : (fnScope (stmtAt i)).kind = .function := by rfl) :
    wpAny (model P0 w) A (call (.ref a) args) Q E s := by
  obtain ⟨o, pm, ho, hd, hc⟩ := I.fn _ hf
  have hL' : 131 < s.heap.objs.size := I.size
  have hL : s.heap.objs.size ≠ 88 := by omega
  refine wpAny_call (codeAny_call_cells (fd := fd i pm (.ref c)) (by have := R.dp; show A.depth < 1000; omega) ho hd I.lim hc rfl (hbind pm) rfl (hkind _) (fun s₁ x => ?_) hco hgen hk)
  obtain ⟨h₁, tk, rfl, kp⟩ := x.done
  have S : St (frs outer) s.heap s.heap.objs.size (bindL (evC i s.heap.objs.size a c).kindOf binds fun _ => none) h₁ :=
    ⟨x.toInCall.ns, .of_keeps _ kp, Heap.get?_none_of_le (Nat.le_refl _), hL⟩
  refine wpAny_mono (h _ h₁ tk hL rfl S x.cell (R.deeper rfl hL')) (fun f s' z => ?_) fun _ _ z => z
  cases f <;> exact z
end
end
section
open PySem PySem.W PyProof.Rows PySem.Calls PySem.Builtin PySem.Builtin.Str PySem.StrLaws
set_option maxRecDepth 100000
section
variable {w : World} {A : Around} {E : Value → Shared → Prop} {s : Shared} {mg mb : Str → Option Value} {outer : List Env}
abbrev wsS : Str := Str.ofString " \t\n"
theorem ws_contains (c : Nat) : wsS.cps.contains c = wsC c := by
  have : wsS.cps = #[32, 9, 10] := by decide +kernel
  rw [this]
  show (#[32, 9, 10] : Array Nat).contains c = (c == 32 || c == 9 || c == 10)
  rw [Array.contains_eq_any_beq]
  simp [Bool.or_assoc]
  try simp only [eq_comm, Bool.or_comm, Bool.or_assoc, Bool.or_left_comm]
theorem lstrip_drop (x : Str) : Txt.stripBy wsS.cps.contains true false x = ⟨(x.cps.toList.drop (runOf wsC x 0)).toArray⟩ := by
  rw [PyProof.Rows.stripBy_eq]
  unfold stripLo stripHi strSub runOf
  have : wsS.cps.contains = wsC := funext ws_contains
  simp only [if_true, Bool.false_eq_true, if_false, List.drop_zero, this]
  congr 1
  apply Array.toList_inj.mp
  simp [Str.length]
  exact List.take_of_length_le (by simp)
theorem call_lstrip {x : Str} {t u : Tok} {Q : Value → Shared → Prop} (hx : x.length ≤ 100000) (h : ∀ t' tk, Q (.str ⟨(x.cps.toList.drop (runOf wsC x 0)).toArray⟩ t') { s with toks := tk }) :
    wpAny (model P0 w) A (call (.builtin "str.lstrip") [.str x t, .str wsS u]) Q E s := by
  refine call_gives F.slot_str_lstrip (typeIs_str _ _ _) F.entry_str_lstrip (F.args_str_lstrip_2 _ _) (gives_str_lstrip_chars x wsS t u) ?_
  refine post_val_or_made (fun _ => ?_) fun t' k => ?_
  · have : (PySem.stripped wsS.cps.contains true false x).length ≤ x.length := by
      unfold PySem.stripped strSub
      show (x.cps.extract _ _).size ≤ x.cps.size
      rw [Array.size_extract]
      omega
    rw [sizeLine_eq]
    omega
  · have := h t' k
    rw [← lstrip_drop] at this
    exact this
end
end
section
open PySem PySem.W PyProof.Rows PySem.Calls PySem.Builtin PySem.Builtin.Str PySem.StrLaws
set_option maxRecDepth 100000
def badC (c : Nat) : Bool := !(c == 9 || c == 10) && (decide (c < 32) || c == 127)
abbrev evT (L : Addr) : Env := evC 16 L 112 111
theorem cell_due (L : Addr) : (evT L).cells.lookup (Str.ofString "due") = some (L + 1) := rfl
theorem cell_k (L : Addr) : (evT L).cells.lookup (Str.ofString "k") = some (L + 2) := rfl
section
variable {w : World} {A : Around} {E : Value → Shared → Prop} {s : Shared} {mg mb : Str → Option Value} {outer : List Env}
theorem nmDue {M : Model} {L : Addr} {pos : Pos} {v : Value} {Q : Value → Shared → Prop} (hv : s.heap.IsCell (L + 1) (some v)) (h : Q v s) : wpAny M A (eval (.Name "due" pos) (evT L)) Q E s :=
  wpAny_Name (wpAny_loadName_cell rfl rfl (cell_due L) hv h) (by decide)
theorem nmK {M : Model} {L : Addr} {pos : Pos} {v : Value} {Q : Value → Shared → Prop} (hv : s.heap.IsCell (L + 2) (some v)) (h : Q v s) : wpAny M A (eval (.Name "k" pos) (evT L)) Q E s :=
  wpAny_Name (wpAny_loadName_cell rfl rfl (cell_k L) hv h) (by decide)

/-- what stands while _law_tells walks -/
structure TS (outer : List Env) (h₀ : Heap) (L d : Addr) (m : Str → Option Value) (k : Nat) (vs : List Value) (h : Heap) : Prop where
  S : St (frs outer) h₀ L m h
  cd : h.IsCell (L + 1) (some (.ref d))
  ck : ∃ t, h.IsCell (L + 2) (some (.int (k : Int) t))
  dl : h.IsList d vs.toArray
  n1 : h₀.get? (L + 1) = none
  n2 : h₀.get? (L + 2) = none
  dx : d ∉ XF L outer
theorem succ_ne (L : Addr) : L + 1 ≠ L := Nat.succ_ne_self L
theorem succ2_ne (L : Addr) : L + 2 ≠ L := fun h => absurd h (Nat.ne_of_gt (Nat.lt_add_of_pos_right (by decide)))
theorem TS.move {outer : List Env} {h₀ h h' : Heap} {L d : Addr} {m m' : Str → Option Value} {k : Nat} {vs : List Value} (Z : TS outer h₀ L d m k vs h) (hF : h₀.FunFrames {} outer) (T : Tab h₀)
    (S : St (frs outer) h₀ L m' h') (x : KX (XF L outer) h h') : TS outer h₀ L d m' k vs h' :=
  have x1 := notIn_new hF T Z.n1 (succ_ne L)
  have x2 := notIn_new hF T Z.n2 (succ2_ne L)
  ⟨S, let ⟨o, e, z⟩ := Z.cd; ⟨o, x _ o x1 e, z⟩, let ⟨t, o, e, z⟩ := Z.ck; ⟨t, o, x _ o x2 e, z⟩, x.isList Z.dx Z.dl, Z.n1, Z.n2, Z.dx⟩
theorem strsAre_at {vs : List Value} {ys : List Str} (hi : StrsAre vs ys) : ∀ {k : Nat} {b : Str}, ys[k]? = some b → ∃ t, vs[k]? = some (.str b t) := by
  induction hi with
  | nil => intro k b h; simp at h
  | cons y t _ ih =>
    intro k b h
    cases k with
    | zero => simp at h; subst h; exact ⟨t, rfl⟩
    | succ k => exact ih (by simpa using h)
theorem join_eq (sep : Str) (l : List Str) : Txt.join sep l = Str.join sep l := eq_of_beq (join_plain_closes sep l)
theorem join_cps : ∀ l : List Str, (Txt.join (Str.ofString "") l).cps.toList = l.flatMap (·.cps.toList) := by
  intro l
  rw [join_eq]
  induction l with
  | nil => rfl
  | cons a l ih =>
    cases l with
    | nil => show a.cps.toList = _; simp
    | cons c r =>
      rw [join_cons_cons, cps_append, cps_append, ih]
      have : (Str.ofString "").cps.toList = [] := by decide +kernel
      rw [this]
      simp
theorem join_len (l : List Str) : (Txt.join (Str.ofString "") l).length = (l.map (·.length)).sum := by
  show (Txt.join (Str.ofString "") l).cps.size = _
  rw [← Array.length_toList, join_cps, List.length_flatMap]
  congr 1
theorem strsAre_take {vs : List Value} {ys : List Str} (hi : StrsAre vs ys) : ∀ k, StrsAre (vs.take k) (ys.take k) := by
  induction hi with
  | nil => intro k; simp; exact .nil
  | cons y t _ ih =>
    intro k
    cases k with
    | zero => exact .nil
    | succ k => exact .cons y t (ih k)
theorem strsAre_drop {vs : List Value} {ys : List Str} (hi : StrsAre vs ys) : ∀ k, StrsAre (vs.drop k) (ys.drop k) := by
  induction hi with
  | nil => intro k; simp; exact .nil
  | cons y t hr ih =>
    intro k
    cases k with
    | zero => exact .cons y t hr
    | succ k => exact ih k
theorem slice_one (y : Str) : (Txt.slice y none (some 1)).cps.toList = y.cps.toList.take 1 := by
  by_cases h : 1 ≤ y.length
  · have : Txt.slice y none (some 1) = ⟨((y.cps.toList.drop 0).take ((1 : Int) - 0).toNat).toArray⟩ := sliceText_to ⟨by decide, by rw [Array.length_toList]; show (1 : Int) ≤ (y.length : Int); omega⟩
    rw [this]
    simp
  · have h0 : y.length = 0 := by omega
    have h1 : (Txt.slice y none (some 1)).length = 0 := by have := Txt.slice_le y none (some 1); omega
    have e1 : (Txt.slice y none (some 1)).cps.toList = [] := List.eq_nil_of_length_eq_zero (by rw [Array.length_toList]; exact h1)
    have e2 : y.cps.toList = [] := List.eq_nil_of_length_eq_zero (by rw [Array.length_toList]; exact h0)
    rw [e1, e2]; rfl
end
end
section
open PySem PySem.W PyProof.Rows PySem.Calls PySem.Builtin PySem.Builtin.Str PySem.StrLaws
set_option maxRecDepth 100000
section
variable {w : World} {A : Around} {E : Value → Shared → Prop} {s : Shared} {mg mb : Str → Option Value} {outer : List Env}

def dropS (b : Str) (k : Nat) : Str := ⟨(b.cps.toList.drop k).toArray⟩
theorem dropS_list (b : Str) (k : Nat) : (dropS b k).cps.toList = b.cps.toList.drop k := by simp [dropS]
set_option maxHeartbeats 4000000 in
theorem tell_not {n k at' : Nat} {L d : Addr} {h₀ : Heap} {m : Str → Option Value} {vs : List Value} {ys : List Str} {b : Str} {t u : Tok} {Q : Flow → Shared → Prop} (G : Gl mg mb) (R : Rm n A (evT L :: outer)) (I : Inv w mg mb h₀) (T : Tab h₀) (hF : h₀.FunFrames {} outer)
    (Z : TS outer h₀ L d m k vs s.heap) (hi : StrsAre vs ys) (hb : ys[k]? = some b) (hk : k ≤ 100) (hlen : b.length ≤ 8) (hsum : (ys.map (·.length)).sum ≤ 100000) (hvl : vs.length ≤ 100)
    (m1 : m "bare" = some (.str (dropS b at') t)) (m2 : m "at" = some (.int (at' : Int) u)) (hno : b.cps[at']? ≠ some 35) (hle : at' ≤ b.length)
    (hstop : at' < b.length → ∀ h' tk u', Keep (frs outer) h₀ h' → Q (.ret (.int ((((ys.take k).map (·.length)).sum + at' : Nat) : Int) u')) { s with heap := h', toks := tk })
    (hblank : at' = b.length → ∀ h' tk, TS outer h₀ L d m k vs h' → KX (XF L outer) s.heap h' → Q .next { s with heap := h', toks := tk }) :
    wpAny (model P0 w) A (execs ((forBody ((fnBody (stmtAt 16)).getD 0 (.Pass ⟨0, 0, 0, 0⟩))).drop 2) (evT L)) Q E s := by
  have hX : (evT L).locals ∈ XF L outer := by show L ∈ XF L outer; simp
  have S := Z.S
  refine wpAny_execs_cons ?_
  refine wpAny_If ?_
  refine wpAny_isTrue_Compare1 ?_
  refine slice_str ?_
  refine nm S.ns m1 ?_
  refine wpAny_evalPart_none ?_
  refine wpAny_evalPart_some ?_
  refine wpAny_Constant_int ?_
  have hdl : (dropS b at').length ≤ b.length := by show (b.cps.toList.drop at').toArray.size ≤ _; simp [Str.length]
  refine ⟨dropS b at', t, none, some (_, _), rfl, rfl, rfl, by rw [sizeLine_eq]; omega, fun t' tk => ?_⟩
  refine Constant_str ?_
  refine P.eq_str ?_
  refine wpAny_truthy_bool ?_
  have S₂ := S.keeps (h' := s.heap.push { cls := .type "slice", data := .fields #[.none, .int 1 s.toks, .none] }) fun b o e => Heap.get?_push_of_some _ e
  have Z₂ := Z.move hF T S₂ (.push _ _)
  refine PySem.W.ite_neg ?_ ?_
  · show ¬ ((Txt.slice (dropS b at') none (some 1)).cps.toList == [35]) = true
    rw [slice_one, dropS_list]
    intro z
    have z := eq_of_beq z
    apply hno
    have : b.cps.toList[at']? = some 35 := by
      have : (b.cps.toList.drop at')[0]? = some 35 := by
        cases hd : b.cps.toList.drop at' with
        | nil => rw [hd] at z; cases z
        | cons c r => rw [hd] at z; simpa using z
      simpa using this
    simpa using this
  refine wpAny_execs_cons ?_
  refine wpAny_If ?_
  refine wpAny_isTrue_Compare1 ?_
  refine nm S₂.ns m1 ?_
  refine Constant_str ?_
  refine P.ne_str ?_
  refine wpAny_truthy_bool ?_
  by_cases hat : at' < b.length
  · refine PySem.W.ite_pos ?_ ?_
    · show ((dropS b at').cps.toList != []) = true
      rw [dropS_list]
      have : (b.cps.toList.drop at') ≠ [] := by
        intro z
        have := List.drop_eq_nil_iff.mp z
        rw [Array.length_toList] at this
        exact absurd hat (Nat.not_lt.mpr this)
      simpa using this
    refine wpAny_execs_cons ?_
    refine wpAny_Return_some ?_
    refine wpAny_BinOp ?_
    refine Call_ ?_
    refine nmB G (S₂.inv I) rfl ?_
    refine PyProof.Rows.callWith_builtin1 ?_
    refine args_cons ?_
    refine MethodCall_ ?_
    refine Constant_str ?_
    with_reducible refine GM.join ?_
    refine callM ?_
    refine args_cons ?_
    obtain ⟨tk2, ck₂⟩ := Z₂.ck
    refine slice_list ?_
    refine nmDue Z₂.cd ?_
    refine wpAny_evalPart_none ?_
    refine wpAny_evalPart_some ?_
    refine nmK ck₂ ?_
    refine ⟨d, vs.toArray, none, some (k : Int), rfl, Z₂.dl, by rw [sizeLine_eq]; simp; omega, .none, .int _ _, fun h₃ a k₃ p₃ f₃ => ?_⟩
    have S₃ := S₂.keeps k₃
    rw [slicePick_upto'] at p₃
    have hj := strsAre_take hi k
    have hs2 : ((ys.take k).map (·.length)).sum ≤ 100000 := by
      refine Nat.le_trans ?_ hsum
      conv => rhs; rw [← List.take_append_drop k ys]
      rw [List.map_append, List.sum_append]
      omega
    refine args_nil ?_
    refine join_list (ys := ys.take k) p₃.isList (by simpa using hj) (by have : (Str.ofString "").length = 0 := (by decide +kernel); rw [this]; omega) fun t₄ tk₄ => ?_
    refine args_nil ?_
    refine P.len_str (by rw [join_len]; omega) ?_
    refine nm S₃.ns m2 ?_
    refine add_int ?_
    have hh := fun tk u => hstop hat h₃ tk u S₃.keep
    have e : ((((ys.take k).map (·.length)).sum + at' : Nat) : Int) = ((Txt.join (Str.ofString "") (ys.take k)).length : Int) + (at' : Int) := by rw [join_len]; omega
    rw [e] at hh
    exact hh _ _
  · refine PySem.W.ite_neg ?_ ?_
    · show ¬ ((dropS b at').cps.toList != []) = true
      rw [dropS_list, List.drop_of_length_le (by rw [Array.length_toList]; exact Nat.not_lt.mp hat)]
      decide
    refine wpAny_execs_nil ?_
    refine wpAny_execs_nil ?_
    refine wpAny_execs_nil ?_
    exact hblank (by omega) _ _ Z₂ (.push _ _)
end
end
section
open PySem PySem.W PyProof.Rows PySem.Calls PySem.Builtin PySem.Builtin.Str PySem.StrLaws
set_option maxRecDepth 100000
/-- is there a wrong sign at this place? -/
def badAt (b : Str) (j : Nat) : Bool := match b.cps[j]? with | some x => badC x | none => false
def badV (b : Str) (v : Value) : Bool := match v with | .int c _ => badAt b c.toNat | _ => false
theorem paired_eq {l₁ l₂ : List Value} (h : Paired (fun v y : Value => v = y) l₁ l₂) : l₁ = l₂ := by
  induction h with
  | nil => rfl
  | cons h _ ih => rw [h, ih]
theorem wrong_list (b : Str) : ∀ (l : List Value) (a : Nat), (∀ (j : Nat) (v : Value), l[j]? = some v → ∃ t, v = Value.int ((a + j : Nat) : Int) t) →
    ((∀ j, j < l.length → badAt b (a + j) = false) ∧ l.filter (badV b) = []) ∨
    ∃ j t r, j < l.length ∧ badAt b (a + j) = true ∧ (∀ i, i < j → badAt b (a + i) = false) ∧ l.filter (badV b) = Value.int ((a + j : Nat) : Int) t :: r := by
  intro l
  induction l with
  | nil => intro a _; exact .inl ⟨fun j h => absurd h (Nat.not_lt_zero _), rfl⟩
  | cons v l ih =>
    intro a h
    obtain ⟨t, hv⟩ := h 0 v rfl
    have ih' := ih (a + 1) fun j w hw => by
      obtain ⟨t, e⟩ := h (j + 1) w (by simpa using hw)
      exact ⟨t, by rw [e]; congr 2; omega⟩
    have hb : badV b v = badAt b a := by rw [hv]; show badAt b (Int.toNat _) = _; simp
    cases hba : badAt b a with
    | true =>
      exact .inr ⟨0, t, l.filter (badV b), by simp, by simpa using hba, fun i hi => absurd hi (Nat.not_lt_zero _), by rw [List.filter_cons, hb, hba, if_pos rfl, hv]⟩
    | false =>
      rw [List.filter_cons, hb, hba]
      simp only [Bool.false_eq_true, if_false]
      rcases ih' with ⟨h1, h2⟩ | ⟨j, t', r, h1, h2, h3, h4⟩
      · refine .inl ⟨fun j hj => ?_, h2⟩
        cases j with
        | zero => simpa using hba
        | succ j =>
          have := h1 j (by simpa using hj)
          rw [← this]; congr 1; omega
      · refine .inr ⟨j + 1, t', r, by simpa using h1, ?_, fun i hi => ?_, ?_⟩
        · rw [← h2]; congr 1; omega
        · cases i with
          | zero => simpa using hba
          | succ i => rw [← h3 i (by omega)]; congr 1; omega
        · rw [h4]; congr 3; omega
end
section
open PySem PySem.W PyProof.Rows PySem.Calls PySem.Builtin PySem.Builtin.Str PySem.StrLaws
set_option maxRecDepth 100000
def ifBody : Stmt → List Stmt
  | .If _ b .. => b
  | _ => []
abbrev hexA : Str := Str.ofString "01234567"
abbrev hexB : Str := Str.ofString "0123456789abcdef"
def lookT (c : Nat) : Str := if c = 13 then Str.ofString "\\r" else Str.ofString "\\x" ++ ⟨#[hexA.cps.getD (c / 16) 0]⟩ ++ ⟨#[hexB.cps.getD (c % 16) 0]⟩
theorem bad_lt {c : Nat} (h : badC c = true) : c < 128 := by
  unfold badC at h
  simp at h
  omega
theorem look_len (c : Nat) : (lookT c).length ≤ 4 := by
  unfold lookT
  split
  · decide +kernel
  · rw [Str.length_append, Str.length_append]
    have h1 : (Str.ofString "\\x").length = 2 := by decide +kernel
    have h2 : ∀ x : Nat, (⟨#[x]⟩ : Str).length = 1 := fun _ => rfl
    rw [h1, h2, h2]
    omega
def tellText (c k j : Nat) : Str := (Str.ofString "Found invalid character '" ++ lookT c ++ Str.ofString "'") ++ Str.ofString " (at line " ++ Str.ofString (toString (((k : Nat) : Int) + 1)) ++ Str.ofString ", column " ++ Str.ofString (toString (((j : Nat) : Int) + 1)) ++ Str.ofString ")"
section
variable {w : World} {A : Around} {E : Value → Shared → Prop} {s : Shared} {mg mb : Str → Option Value} {outer : List Env}
set_option maxHeartbeats 4000000 in
theorem tell_wrong {n k : Nat} {L d D : Addr} {h₀ : Heap} {m : Str → Option Value} {vs : List Value} {ys : List Str} {b : Str} {ws : Array Value} {Q : Flow → Shared → Prop} (G : Gl mg mb) (R : Rm n A (evT L :: outer)) (I : Inv w mg mb h₀) (T : Tab h₀) (hF : h₀.FunFrames {} outer)
    (Z : TS outer h₀ L d m k vs s.heap) (hi : StrsAre vs ys) (hb : ys[k]? = some b) (hk : k ≤ 100) (hlen : b.length ≤ 8)
    (m1 : m "wrong" = some (.ref D)) (hD : s.heap.IsList D ws) (hwz : ws.size ≤ 10) (hDX : D ∉ XF L outer) (hw0 : ws.toList ≠ [] → ∃ j c t, ws[0]? = some (.int ((j : Nat) : Int) t) ∧ b.cps[j]? = some c ∧ badC c = true)
    (hsome : ∀ j c t, ws[0]? = some (.int ((j : Nat) : Int) t) → b.cps[j]? = some c → badC c = true → ∀ h' tk u', Keep (frs outer) h₀ h' → Q (.ret (.str (tellText c k j) u')) { s with heap := h', toks := tk })
    (hnone : ws.toList = [] → ∀ h' tk, TS outer h₀ L d m k vs h' → KX (XF L outer) s.heap h' → Q .next { s with heap := h', toks := tk }) :
    wpAny (model P0 w) A (execs ((ifBody ((forBody ((fnBody (stmtAt 16)).getD 0 (.Pass ⟨0, 0, 0, 0⟩))).getD 2 (.Pass ⟨0, 0, 0, 0⟩))).drop 1) (evT L)) Q E s := by
  have hX : (evT L).locals ∈ XF L outer := by show L ∈ XF L outer; simp
  have S := Z.S
  refine wpAny_execs_cons ?_
  refine wpAny_If ?_
  refine wpAny_isTrue_Compare1 ?_
  refine nm S.ns m1 ?_
  refine List_ ?_
  refine args_nil ?_
  refine new_listS S T (fun h₂ a S₂ k₂ p₂ n₂ f₂ => ?_) (by rw [sizeLine_eq]; decide)
  have Z₂ := Z.move hF T S₂ (.of k₂)
  have hD₂ : h₂.IsList D ws := hD.at fun o e => k₂ _ _ e
  have hu : A.units < cLine := by have h1 : A.units + 10 * n ≤ 9000 := R.un; have := cLine_big; omega
  by_cases hw : ws.toList = []
  · have hz : ws.size = 0 := by rw [← Array.length_toList, hw]; rfl
    refine SeqAt.RcNeAt.lists (e := fun _ => true) hD₂ p₂.isList (by rw [hz]; rfl) hu (fun j h1 => absurd h1 (by omega)) P0 w E _ ?_
    refine wpAny_truthy_bool ?_
    refine PySem.W.ite_neg (by rw [hz]; decide) ?_
    refine wpAny_execs_nil ?_
    refine wpAny_execs_nil ?_
    exact hnone hw _ _ Z₂ (.of k₂)
  · have hz : ws.size ≠ 0 := fun z => hw (List.eq_nil_of_length_eq_zero (by rw [Array.length_toList]; exact z))
    refine SeqAt.RcNeAt.lists_lengths hD₂ p₂.isList (by simpa using hz) hu P0 w E _ ?_
    refine wpAny_truthy_bool ?_
    refine PySem.W.ite_pos rfl ?_
    obtain ⟨j, c, tj, hj0, hjc, hbad⟩ := hw0 hw
    have hjl : j < b.length := (Array.getElem?_eq_some_iff.mp hjc).1
    obtain ⟨tb, hat⟩ := strsAre_at hi hb
    have hat' : vs.toArray[((k : Nat) : Int).toNat]? = some (.str b tb) := by simpa using hat
    obtain ⟨tk2, ck₂⟩ := Z₂.ck
    refine wpAny_execs_cons ?_
    refine wpAny_Assign_Name ?_
    refine Call_ ?_
    refine nmB G (S₂.inv I) rfl ?_
    refine PyProof.Rows.callWith_builtin1 ?_
    refine args_cons ?_
    refine Subscript_ ?_
    refine Subscript_ ?_
    refine nmDue Z₂.cd ?_
    refine nmK ck₂ ?_
    refine item_listR Z₂.dl (by omega) (by omega) hat' ?_
    refine Subscript_ ?_
    refine nm S₂.ns m1 ?_
    refine wpAny_Constant_int ?_
    refine item_listR hD₂ (by decide) (by decide) hj0 ?_
    refine sub_strI (p := j) R.hd rfl hjl (by omega) fun c₂ hc₂ => ?_
    obtain rfl : c = c₂ := Option.some.inj (hjc.symm.trans hc₂)
    refine args_nil ?_
    refine P.ord_of_char ?_
    refine st_storeX (X := XF L outer) S₂ hX fun h₃ S₃ x₃ => ?_
    have hc128 := bad_lt hbad
    refine wpAny_execs_cons ?_
    refine wpAny_Assign_Name ?_
    refine wpAny_mono (Q := fun v s' => ∃ t tk, v = .str (lookT c) t ∧ s' = { s with heap := h₃, toks := tk }) (IfExp_ (wpAny_isTrue_Compare1 ?_)) ?_ fun _ _ z => z
    · refine nm S₃.ns rfl ?_
      refine wpAny_Constant_int ?_
      refine eq_int ?_
      refine wpAny_truthy_bool ?_
      have hA : hexA.length = 8 := by decide +kernel
      have hB : hexB.length = 16 := by decide +kernel
      by_cases h13 : c = 13
      · refine PySem.W.ite_pos (by simp [h13]) ?_
        refine Constant_str ?_
        exact ⟨_, _, by unfold lookT; rw [if_pos h13], rfl⟩
      · refine PySem.W.ite_neg (by simp; omega) ?_
        refine wpAny_BinOp ?_
        refine wpAny_BinOp ?_
        refine Constant_str ?_
        refine Subscript_ ?_
        refine Constant_str ?_
        refine wpAny_BinOp ?_
        refine nm S₃.ns rfl ?_
        refine wpAny_Constant_int ?_
        refine PyProof.Rows.floordiv_int (by decide) ?_
        refine sub_strI (p := c / 16) R.hd (by rw [fdiv_pos _ _ (by decide)]; omega) (by show c / 16 < hexA.length; rw [hA]; omega) (by omega) fun c₁ hc₁ => ?_
        refine PyProof.Rows.add_str (fun t₄ tk₄ => ?_) (by rw [sizeLine_eq, len_sign]; have : (Str.ofString "\\x").length = 2 := (by decide +kernel); omega)
        refine Subscript_ ?_
        refine Constant_str ?_
        refine wpAny_BinOp ?_
        refine nm S₃.ns rfl ?_
        refine wpAny_Constant_int ?_
        refine PyProof.Rows.mod_int (by decide) ?_
        refine sub_strI (p := c % 16) R.hd (by rw [fmod_pos _ _ (by decide)]; omega) (by show c % 16 < hexB.length; rw [hB]; omega) (by omega) fun c₂ hc₂ => ?_
        refine PyProof.Rows.add_str (fun t₅ tk₅ => ?_) (by rw [sizeLine_eq, Str.length_append, len_sign, len_sign]; have : (Str.ofString "\\x").length = 2 := (by decide +kernel); omega)
        refine ⟨t₅, tk₅, ?_, rfl⟩
        unfold lookT
        rw [if_neg h13]
        have e1 : hexA.cps.getD (c / 16) 0 = c₁ := by simp [Array.getD_eq_getD_getElem?, hc₁]
        have e2 : hexB.cps.getD (c % 16) 0 = c₂ := by simp [Array.getD_eq_getD_getElem?, hc₂]
        rw [e1, e2]
    · rintro v s' ⟨t₄, tk₄, rfl, rfl⟩
      have hll := look_len c
      have l1 : (Str.ofString "Found invalid character '").length = 25 := by decide +kernel
      have l2 : (Str.ofString "'").length = 1 := by decide +kernel
      have l3 : (Str.ofString " (at line ").length = 10 := by decide +kernel
      have l4 : (Str.ofString ", column ").length = 9 := by decide +kernel
      have l5 : (Str.ofString ")").length = 1 := by decide +kernel
      have n1 := numLen (a := ((k : Nat) : Int) + 1) (by omega)
      have n2 := numLen (a := ((j : Nat) : Int) + 1) (by omega)
      refine st_storeX (X := XF L outer) S₃ hX fun h₄ S₄ x₄ => ?_
      refine wpAny_execs_cons ?_
      refine wpAny_Assign_Name ?_
      refine wpAny_BinOp ?_
      refine wpAny_BinOp ?_
      refine Constant_str ?_
      refine nm S₄.ns rfl ?_
      refine PyProof.Rows.add_str (fun t₅ tk₅ => ?_) (by rw [sizeLine_eq]; omega)
      refine Constant_str ?_
      refine PyProof.Rows.add_str (fun t₆ tk₆ => ?_) (by rw [sizeLine_eq, Str.length_append]; omega)
      refine st_storeX (X := XF L outer) S₄ hX fun h₅ S₅ x₅ => ?_
      have Z₅ := ((Z₂.move hF T S₃ x₃).move hF T S₄ x₄).move hF T S₅ x₅
      obtain ⟨tk3, ck₅⟩ := Z₅.ck
      refine wpAny_execs_cons ?_
      refine wpAny_Return_some ?_
      refine wpAny_BinOp ?_
      refine wpAny_BinOp ?_
      refine wpAny_BinOp ?_
      refine wpAny_BinOp ?_
      refine wpAny_BinOp ?_
      refine nm S₅.ns rfl ?_
      refine Constant_str ?_
      refine PyProof.Rows.add_str (fun t₇ tk₇ => ?_) (by rw [sizeLine_eq, Str.length_append, Str.length_append]; omega)
      refine Call_ ?_
      refine nmB G (S₅.inv I) rfl ?_
      refine PyProof.Rows.callWith_type1 ?_
      refine args_cons ?_
      refine wpAny_BinOp ?_
      refine nmK ck₅ ?_
      refine wpAny_Constant_int ?_
      refine add_int ?_
      refine args_nil ?_
      refine str_of_int_fit (N := 1000) (by split <;> omega) (by decide) fun _ => ?_
      refine PyProof.Rows.add_str (fun t₇ tk₇ => ?_) (by rw [sizeLine_eq, Str.length_append, Str.length_append, Str.length_append]; omega)
      refine Constant_str ?_
      refine PyProof.Rows.add_str (fun t₇ tk₇ => ?_) (by rw [sizeLine_eq, Str.length_append, Str.length_append, Str.length_append, Str.length_append]; omega)
      refine Call_ ?_
      refine nmB G (S₅.inv I) rfl ?_
      refine PyProof.Rows.callWith_type1 ?_
      refine args_cons ?_
      refine wpAny_BinOp ?_
      refine Subscript_ ?_
      refine nm S₅.ns (by exact m1) ?_
      refine wpAny_Constant_int ?_
      have hD₅ : h₅.IsList D ws := x₅.isList hDX (x₄.isList hDX (x₃.isList hDX hD₂))
      refine item_listR hD₅ (by decide) (by decide) hj0 ?_
      refine wpAny_Constant_int ?_
      refine add_int ?_
      refine args_nil ?_
      refine str_of_int_fit (N := 1000) (by split <;> omega) (by decide) fun _ => ?_
      refine PyProof.Rows.add_str (fun t₇ tk₇ => ?_) (by rw [sizeLine_eq, Str.length_append, Str.length_append, Str.length_append, Str.length_append, Str.length_append]; omega)
      refine Constant_str ?_
      refine PyProof.Rows.add_str (fun t₇ tk₇ => ?_) (by rw [sizeLine_eq, Str.length_append, Str.length_append, Str.length_append, Str.length_append, Str.length_append, Str.length_append]; omega)
      exact hsome j c tj hj0 hjc hbad _ _ _ S₅.keep
end
end
section
open PySem PySem.W PyProof.Rows PySem.Calls PySem.Builtin PySem.Builtin.Str PySem.StrLaws
set_option maxRecDepth 100000
section
variable {w : World} {A : Around} {E : Value → Shared → Prop} {s : Shared} {mg mb : Str → Option Value} {outer : List Env}
abbrev tnS : Str := Str.ofString "\t\n"
theorem found_tn (c : Nat) : (!(occurrences tnS ⟨#[c]⟩ 0 tnS.length 1).isEmpty) = (c == 9 || c == 10) := by
  rw [found_one]
  have : tnS.cps.toList = [9, 10] := by decide +kernel
  rw [this]
  by_cases h1 : c = 9
  · subst h1; decide
  · by_cases h2 : c = 10
    · subst h2; decide
    · simp [h1, h2]
theorem range_small (a b : Nat) (ha : a ≤ 1000000) (hb : b ≤ 1000000) : Builtin.Range.small (a : Int) (b : Int) 1 = true := by
  have f : ∀ i : Int, -1000002 ≤ i → i ≤ 1000002 → Builtin.Range.rangeFitsLong i = true := fun i h1 h2 => by
    unfold Builtin.Range.rangeFitsLong
    simp only [Bool.and_eq_true, decide_eq_true_eq]
    omega
  unfold Builtin.Range.small
  rw [f _ (by omega) (by omega), f _ (by omega) (by omega), f _ (by omega) (by omega)]
  have h1 : Builtin.Range.rangeFitsLong (Builtin.Range.rangeSize (a : Int) (b : Int) 1) = true := by
    rw [rangeSize_one]
    split
    · exact f _ (by omega) (by omega)
    · exact f _ (by omega) (by omega)
  rw [h1]
  simp only [Bool.true_and, Bool.or_eq_true]
  right
  rw [if_pos (by decide)]
  exact f _ (by omega) (by omega)
set_option maxHeartbeats 4000000 in
theorem tell_hash {n k at' : Nat} {L d : Addr} {h₀ : Heap} {m : Str → Option Value} {vs : List Value} {ys : List Str} {b : Str} {t u : Tok} {Q : Flow → Shared → Prop} (G : Gl mg mb) (R : Rm n A (evT L :: outer)) (I : Inv w mg mb h₀) (T : Tab h₀) (hF : h₀.FunFrames {} outer)
    (Z : TS outer h₀ L d m k vs s.heap) (hi : StrsAre vs ys) (hb : ys[k]? = some b) (hk : k ≤ 100) (hlen : b.length ≤ 8) (hsum : (ys.map (·.length)).sum ≤ 100000) (hvl : vs.length ≤ 100)
    (m1 : m "bare" = some (.str (dropS b at') t)) (m2 : m "at" = some (.int (at' : Int) u)) (hno : b.cps[at']? = some 35)
    (hsome : ∀ j c, at' ≤ j → b.cps[j]? = some c → badC c = true → (∀ i, at' ≤ i → i < j → badAt b i = false) → ∀ h' tk u', Keep (frs outer) h₀ h' → Q (.ret (.str (tellText c k j) u')) { s with heap := h', toks := tk })
    (hnone : (∀ i, at' ≤ i → i < b.length → badAt b i = false) → ∀ h' tk m', TS outer h₀ L d m' k vs h' → KX (XF L outer) s.heap h' → Q .next { s with heap := h', toks := tk }) :
    wpAny (model P0 w) A (execs ((forBody ((fnBody (stmtAt 16)).getD 0 (.Pass ⟨0, 0, 0, 0⟩))).drop 2) (evT L)) Q E s := by
  have hX : (evT L).locals ∈ XF L outer := by show L ∈ XF L outer; simp
  have S := Z.S
  have hle : at' < b.length := (Array.getElem?_eq_some_iff.mp hno).1
  refine wpAny_execs_cons ?_
  refine wpAny_If ?_
  refine wpAny_isTrue_Compare1 ?_
  refine slice_str ?_
  refine nm S.ns m1 ?_
  refine wpAny_evalPart_none ?_
  refine wpAny_evalPart_some ?_
  refine wpAny_Constant_int ?_
  have hdl : (dropS b at').length ≤ b.length := by show (b.cps.toList.drop at').toArray.size ≤ _; simp [Str.length]
  refine ⟨dropS b at', t, none, some (_, _), rfl, rfl, rfl, by rw [sizeLine_eq]; omega, fun t' tk => ?_⟩
  refine Constant_str ?_
  refine P.eq_str ?_
  refine wpAny_truthy_bool ?_
  have S₂ := S.keeps (h' := s.heap.push { cls := .type "slice", data := .fields #[.none, .int 1 s.toks, .none] }) fun b o e => Heap.get?_push_of_some _ e
  have Z₂ := Z.move hF T S₂ (.push _ _)
  have hdr : b.cps.toList.drop at' = 35 :: b.cps.toList.drop (at' + 1) := drop_at hno
  refine PySem.W.ite_pos ?_ ?_
  · show ((Txt.slice (dropS b at') none (some 1)).cps.toList == [35]) = true
    rw [slice_one, dropS_list, hdr]
    rfl
  obtain ⟨tb, hat⟩ := strsAre_at hi hb
  have hat' : vs.toArray[((k : Nat) : Int).toNat]? = some (.str b tb) := by simpa using hat
  obtain ⟨tk2, ck₂⟩ := Z₂.ck
  refine wpAny_execs_cons ?_
  refine wpAny_Assign_ListComp_free (cl := _) (badV b) (fun v y => v = y) rfl rfl (by decide) rfl (by decide) rfl rfl rfl ?_
  refine Call_ ?_
  refine nmB G (S₂.inv I) rfl ?_
  refine PyProof.Rows.callWith_type1 ?_
  refine args_cons ?_
  refine nm S₂.ns m2 ?_
  refine args_cons ?_
  refine Call_ ?_
  refine nmB G (S₂.inv I) rfl ?_
  refine PyProof.Rows.callWith_builtin1 ?_
  refine args_cons ?_
  refine Subscript_ ?_
  refine nmDue Z₂.cd ?_
  refine nmK ck₂ ?_
  refine item_listR Z₂.dl (by omega) (by omega) hat' ?_
  refine args_nil ?_
  refine P.len_str (by omega) ?_
  refine args_nil ?_
  refine call_range_2 ?_
  obtain ⟨c₁, hc₁⟩ : ∃ c₁ : Nat, b.length = at' + c₁ := ⟨b.length - at', by omega⟩
  have hrs : Builtin.Range.rangeSize (at' : Int) (b.length : Int) 1 = (c₁ : Int) := by
    rw [rangeSize_one]
    split <;> omega
  refine wpAny_pyIter_range (IsRange.new _ _ _ _ _ _ _) (range_small _ _ (by omega) (by omega)) ?_
  rw [hrs]
  have hlt : L < (s.heap.push { cls := .type "slice", data := .fields #[.none, .int 1 s.toks, .none] }).objs.size := let ⟨_, _, _, e, _⟩ := S₂.ns; Heap.lt_size e
  refine ⟨_, [_], [_], c₁, _, _, m, rfl, (Walks.range R.hd _ (at' : Int) 1 c₁).bound, by rw [sizeLine_eq]; omega, ?_, ?_, ?_, ?_, ⟨?_, ?_⟩, ?_⟩
  · have e1 : (at' : Int) + ((0 : Nat) : Int) * 1 = at' := by omega
    have e2 : (c₁ : Int) - ((0 : Nat) : Int) = c₁ := by omega
    show IsRangeIter _ _ ((at' : Int) + ((0 : Nat) : Int) * 1) ((c₁ : Int) - ((0 : Nat) : Int)) 1
    rw [e1, e2]
    exact Heap.get?_push_size _ rfl
  · intro b hb
    obtain rfl := List.mem_singleton.mp hb
    exact Heap.lt_size (Heap.get?_push_size _ rfl)
  · intro z
    obtain z := List.mem_singleton.mp z
    have z : L = (Heap.push _ _).objs.size := z
    rw [Heap.size_push] at z
    rw [z] at hlt
    exact absurd hlt (Nat.not_lt.mpr (Nat.le_succ _))
  · exact (S₂.ns.push _).push _
  · intro C i v s₃ m₃ E' hC hP hn hm hkp _
    obtain ⟨hic, t₃, rfl⟩ := hP
    have hold : ∀ b o, (s.heap.push { cls := .type "slice", data := .fields #[.none, .int 1 s.toks, .none] }).get? b = some o → s₃.heap.get? b = some o := fun b o e => by
      refine hkp b o (fun z => ?_) (Heap.get?_push_of_some _ (Heap.get?_push_of_some _ e))
      have h1 := Heap.lt_size e
      have z : b = (Heap.push _ _).objs.size := List.mem_singleton.mp z
      rw [Heap.size_push] at z
      rw [z] at h1
      exact absurd h1 (Nat.not_lt.mpr (Nat.le_succ _))
    have I₃ : Inv w mg mb s₃.heap := (S₂.inv I).keep (.of_keeps [] hold)
    have cd₃ : s₃.heap.IsCell (L + 1) (some (.ref d)) := Z₂.cd.keeps hold
    have ck₃ := ck₂.keeps hold
    have dl₃ : s₃.heap.IsList d vs.toArray := Z₂.dl.at fun o e => hold _ _ e
    refine wpAny_tests_one ?_
    refine isTrue_and ?_
    refine wpAny_isTrue_Compare1 ?_
    refine Subscript_ ?_
    refine Subscript_ ?_
    refine wpAny_Name (wpAny_loadName_cell (c := L + 1) rfl rfl rfl cd₃ ?_) (by decide)
    refine wpAny_Name (wpAny_loadName_cell (c := L + 2) rfl rfl rfl ck₃ ?_) (by decide)
    refine item_listR dl₃ (by omega) (by omega) hat' ?_
    refine wpAny_Name (wpAny_loadName_local rfl rfl hn hm ?_) (by decide)
    refine sub_strI (p := at' + i) R.hd (by omega) (by omega) (by omega) fun c hc => ?_
    refine Constant_str ?_
    refine PyProof.Rows.notIn_str ?_
    refine wpAny_truthy_bool ?_
    have hp : badV b (.int ((at' : Int) + (i : Int) * 1) t₃) = badC c := by
      have : ((at' : Int) + (i : Int) * 1).toNat = at' + i := by omega
      show badAt b (Int.toNat _) = _
      unfold badAt
      rw [this, hc]
    have hft := found_tn c
    by_cases h910 : (c == 9 || c == 10) = true
    · refine PySem.W.ite_neg ?_ ?_
      · show ¬ (!(!(occurrences tnS ⟨#[c]⟩ 0 tnS.length 1).isEmpty)) = true
        rw [hft, h910]; decide
      · refine ⟨?_, _, _, rfl, fun _ _ e => e⟩
        refine Eq.trans ?_ hp.symm
        unfold badC
        rw [h910]
        rfl
    · have h910 : (c == 9 || c == 10) = false := by simpa using h910
      refine PySem.W.ite_pos ?_ ?_
      · show (!(!(occurrences tnS ⟨#[c]⟩ 0 tnS.length 1).isEmpty)) = true
        rw [hft, h910]; decide
      refine isTrue_and ?_
      refine isTrue_or ?_
      refine wpAny_isTrue_Compare1 ?_
      refine Call_ ?_
      refine nmB G I₃ rfl ?_
      refine PyProof.Rows.callWith_builtin1 ?_
      refine args_cons ?_
      refine Subscript_ ?_
      refine Subscript_ ?_
      refine wpAny_Name (wpAny_loadName_cell (c := L + 1) rfl rfl rfl cd₃ ?_) (by decide)
      refine wpAny_Name (wpAny_loadName_cell (c := L + 2) rfl rfl rfl ck₃ ?_) (by decide)
      refine item_listR dl₃ (by omega) (by omega) hat' ?_
      refine wpAny_Name (wpAny_loadName_local rfl rfl hn hm ?_) (by decide)
      refine sub_strI (p := at' + i) R.hd (by omega) (by omega) (by omega) fun c₂ hc₂ => ?_
      obtain rfl : c = c₂ := Option.some.inj (hc.symm.trans hc₂)
      refine args_nil ?_
      refine P.ord_of_char ?_
      refine wpAny_Constant_int ?_
      refine lt_int ?_
      refine wpAny_truthy_bool ?_
      have hbad : badC c = (decide (c < 32) || c == 127) := by unfold badC; rw [h910]; rfl
      by_cases h32 : c < 32
      · refine PySem.W.ite_pos (by simp; omega) ?_
        refine PySem.W.ite_pos rfl ?_
        refine isTrue_and_nil ?_
        refine ⟨?_, _, _, rfl, fun _ _ e => e⟩
        refine Eq.trans ?_ hp.symm
        rw [hbad]; simp [h32]
      · refine PySem.W.ite_neg (by simp; omega) ?_
        refine isTrue_or ?_
        refine wpAny_isTrue_Compare1 ?_
        refine Call_ ?_
        refine nmB G I₃ rfl ?_
        refine PyProof.Rows.callWith_builtin1 ?_
        refine args_cons ?_
        refine Subscript_ ?_
        refine Subscript_ ?_
        refine wpAny_Name (wpAny_loadName_cell (c := L + 1) rfl rfl rfl cd₃ ?_) (by decide)
        refine wpAny_Name (wpAny_loadName_cell (c := L + 2) rfl rfl rfl ck₃ ?_) (by decide)
        refine item_listR dl₃ (by omega) (by omega) hat' ?_
        refine wpAny_Name (wpAny_loadName_local rfl rfl hn hm ?_) (by decide)
        refine sub_strI (p := at' + i) R.hd (by omega) (by omega) (by omega) fun c₃ hc₃ => ?_
        obtain rfl : c = c₃ := Option.some.inj (hc.symm.trans hc₃)
        refine args_nil ?_
        refine P.ord_of_char ?_
        refine wpAny_Constant_int ?_
        refine eq_int ?_
        refine wpAny_truthy_bool ?_
        by_cases h127 : c = 127
        · refine PySem.W.ite_pos (by simp [h127]) ?_
          refine PySem.W.ite_pos rfl ?_
          refine isTrue_and_nil ?_
          refine ⟨?_, _, _, rfl, fun _ _ e => e⟩
          refine Eq.trans ?_ hp.symm
          rw [hbad]; simp [h127]
        · refine PySem.W.ite_neg (by simp; omega) ?_
          refine isTrue_or_nil ?_
          refine PySem.W.ite_neg (by decide) ?_
          refine ⟨?_, _, _, rfl, fun _ _ e => e⟩
          refine Eq.trans ?_ hp.symm
          rw [hbad]; simp [h32, h127]
  · intro C i v s₃ m₃ E' hC hP hpv hn hm hkp _
    refine wpAny_Name (wpAny_loadName_local rfl rfl hn hm ?_) (by decide)
    exact ⟨rfl, _, _, rfl, fun _ _ e => e⟩
  · intro D h₃ tk₃ ws ws' hD hl₃ hpl hlen' hP hFp hns hkp
    have hold : ∀ b o, b ≠ L → (s.heap.push { cls := .type "slice", data := .fields #[.none, .int 1 s.toks, .none] }).get? b = some o → h₃.get? b = some o := fun b o hbL e => by
      refine hkp b o hbL (fun z => ?_) (Heap.get?_push_of_some _ (Heap.get?_push_of_some _ e))
      have h1 := Heap.lt_size e
      have z : b = (Heap.push _ _).objs.size := List.mem_singleton.mp z
      rw [Heap.size_push] at z
      rw [z] at h1
      exact absurd h1 (Nat.not_lt.mpr (Nat.le_succ _))
    have x₃ : KX (XF L outer) (s.heap.push { cls := .type "slice", data := .fields #[.none, .int 1 s.toks, .none] }) h₃ := fun b o hb e => hold b o (fun z => hb (by simp [z])) e
    have S₃ : St (frs outer) h₀ L (fun z => if z = "wrong" then some (.ref D) else m z) h₃ := ⟨hns, S₂.keep.ext S₂.new (fun b o q e => hold b o q e) (loose_ns S₂.ns), S.new, S.ne⟩
    have Z₃ : TS outer h₀ L d (fun z => if z = "wrong" then some (.ref D) else m z) k vs h₃ := Z₂.move hF T S₃ x₃
    have hwl := wrong_list b ws' at' fun j v hv => by
      obtain ⟨hj, t, e⟩ := hP j v hv
      exact ⟨t, by rw [e]; congr 1; omega⟩
    have hws := paired_eq hFp
    rw [hws] at hwl
    have hwz : ws.size ≤ 10 := by
      rw [← Array.length_toList, ← hws]
      have := List.length_filter_le (badV b) ws'
      omega
    have hD2 : (s.heap.push { cls := .type "slice", data := .fields #[.none, .int 1 s.toks, .none] }).get? D = none := by
      cases e : (s.heap.push { cls := .type "slice", data := .fields #[.none, .int 1 s.toks, .none] }).get? D with
      | none => rfl
      | some o => exact absurd (hD.symm.trans (Heap.get?_push_of_some _ (Heap.get?_push_of_some _ e))) nofun
    have hDL : D ≠ L := fun z => by
      obtain ⟨o, _, _, e, _⟩ := S₂.ns
      have e : Heap.get? _ L = some o := e
      rw [← z, hD2] at e
      cases e
    have hD0 : h₀.get? D = none := S₂.keep.none T hD2
    refine tell_wrong (s := { s with heap := h₃, toks := tk₃ }) (n := n) G R I T hF Z₃ hi hb hk hlen rfl hl₃ hwz (notIn_new hF T hD0 hDL) (fun hne => ?_) (fun j c t e0 hc hbd h' tk' u' kp => ?_) fun he h' tk' Z' x' => ?_
    · rcases hwl with ⟨_, h2⟩ | ⟨j, t, r, h1, h2, h3, h4⟩
      · exact absurd h2 hne
      · unfold badAt at h2
        cases hc : b.cps[at' + j]? with
        | none => rw [hc] at h2; cases h2
        | some c =>
          rw [hc] at h2
          refine ⟨at' + j, c, t, ?_, hc, h2⟩
          have : ws.toList[0]? = some (.int ((at' + j : Nat) : Int) t) := by rw [h4]; rfl
          simpa using this
    · rcases hwl with ⟨_, h2⟩ | ⟨j', t', r, h1, h2, h3, h4⟩
      · have : ws.toList[0]? = some (.int ((j : Nat) : Int) t) := by simpa using e0
        rw [h2] at this; cases this
      · have e1 : ws.toList[0]? = some (.int ((j : Nat) : Int) t) := by simpa using e0
        rw [h4] at e1
        have e2 : Value.int ((at' + j' : Nat) : Int) t' = .int ((j : Nat) : Int) t := Option.some.inj e1
        injection e2 with e2 _
        have e3 : at' + j' = j := Int.ofNat.inj e2
        subst e3
        refine hsome _ c (Nat.le_add_right _ _) hc hbd (fun i hi1 hi2 => ?_) h' tk' u' kp
        have := h3 (i - at') (by omega)
        rw [show at' + (i - at') = i by omega] at this
        exact this
    · refine wpAny_execs_nil ?_
      refine hnone ?_ h' tk' _ Z' (((KX.push _ _).trans x₃).trans x')
      rcases hwl with ⟨h1, _⟩ | ⟨j, t, r, h1, h2, h3, h4⟩
      · intro i hi1 hi2
        have := h1 (i - at') (by omega)
        rw [show at' + (i - at') = i by omega] at this
        exact this
      · rw [he] at h4; cases h4
end
end
section
open PySem PySem.W PyProof.Rows PySem.Calls PySem.Builtin PySem.Builtin.Str PySem.StrLaws
set_option maxRecDepth 100000
section
variable {w : World} {A : Around} {E : Value → Shared → Prop} {s : Shared} {mg mb : Str → Option Value} {outer : List Env}
set_option maxHeartbeats 4000000 in
theorem tell_turn {n k : Nat} {L d : Addr} {h₀ : Heap} {m : Str → Option Value} {vs : List Value} {ys : List Str} {b : Str} {Q : Flow → Shared → Prop} (G : Gl mg mb) (R : Rm n A (evT L :: outer)) (I : Inv w mg mb h₀) (T : Tab h₀) (hF : h₀.FunFrames {} outer)
    (Z : TS outer h₀ L d m k vs s.heap) (hi : StrsAre vs ys) (hb : ys[k]? = some b) (hk : k ≤ 100) (hlen : b.length ≤ 8) (hsum : (ys.map (·.length)).sum ≤ 100000) (hvl : vs.length ≤ 100)
    (hstop : runOf wsC b 0 < b.length → b.cps[runOf wsC b 0]? ≠ some 35 → ∀ h' tk u', Keep (frs outer) h₀ h' → Q (.ret (.int ((((ys.take k).map (·.length)).sum + runOf wsC b 0 : Nat) : Int) u')) { s with heap := h', toks := tk })
    (hsome : b.cps[runOf wsC b 0]? = some 35 → ∀ j c, runOf wsC b 0 ≤ j → b.cps[j]? = some c → badC c = true → (∀ i, runOf wsC b 0 ≤ i → i < j → badAt b i = false) → ∀ h' tk u', Keep (frs outer) h₀ h' → Q (.ret (.str (tellText c k j) u')) { s with heap := h', toks := tk })
    (hnext : runOf wsC b 0 = b.length ∨ (b.cps[runOf wsC b 0]? = some 35 ∧ ∀ i, runOf wsC b 0 ≤ i → i < b.length → badAt b i = false) → ∀ h' tk m', TS outer h₀ L d m' k vs h' → KX (XF L outer) s.heap h' → Q .next { s with heap := h', toks := tk }) :
    wpAny (model P0 w) A (execs (forBody ((fnBody (stmtAt 16)).getD 0 (.Pass ⟨0, 0, 0, 0⟩))) (evT L)) Q E s := by
  have hX : (evT L).locals ∈ XF L outer := by show L ∈ XF L outer; simp
  have S := Z.S
  obtain ⟨tk, ck⟩ := Z.ck
  have cd := Z.cd
  have dl := Z.dl
  obtain ⟨tb, hat⟩ := strsAre_at hi hb
  have hat' : vs.toArray[((k : Nat) : Int).toNat]? = some (.str b tb) := by simpa using hat
  refine wpAny_execs_cons ?_
  refine wpAny_Assign_Name ?_
  refine MethodCall_ ?_
  refine Subscript_ ?_
  refine nmDue cd ?_
  refine nmK ck ?_
  refine item_listR dl (by omega) (by omega) hat' ?_
  with_reducible refine GM.lstrip ?_
  refine callM ?_
  refine args_cons ?_
  refine Constant_str ?_
  refine args_nil ?_
  refine call_lstrip (by omega) fun t₁ tk₁ => ?_
  refine st_storeX (X := XF L outer) S hX fun h₂ S₂ x₂ => ?_
  have Z₂ := Z.move hF T S₂ x₂
  obtain ⟨tk2, ck₂⟩ := Z₂.ck
  refine wpAny_execs_cons ?_
  refine wpAny_Assign_Name ?_
  refine wpAny_BinOp ?_
  refine Call_ ?_
  refine nmB G (S₂.inv I) rfl ?_
  refine PyProof.Rows.callWith_builtin1 ?_
  refine args_cons ?_
  refine Subscript_ ?_
  refine nmDue Z₂.cd ?_
  refine nmK ck₂ ?_
  refine item_listR Z₂.dl (by omega) (by omega) hat' ?_
  refine args_nil ?_
  refine P.len_str (by omega) ?_
  refine Call_ ?_
  refine nmB G (S₂.inv I) rfl ?_
  refine PyProof.Rows.callWith_builtin1 ?_
  refine args_cons ?_
  refine nm S₂.ns rfl ?_
  refine args_nil ?_
  have hrun : runOf wsC b 0 ≤ b.length := by have := runOf_le wsC b 0 (Nat.zero_le _); omega
  have hbl : (⟨(b.cps.toList.drop (runOf wsC b 0)).toArray⟩ : Str).length = b.length - runOf wsC b 0 := by show (b.cps.toList.drop _).toArray.size = _; simp [Str.length]
  refine P.len_str (by rw [hbl]; omega) ?_
  refine sub_int ?_
  refine st_storeX (X := XF L outer) S₂ hX fun h₃ S₃ x₃ => ?_
  have Z₃ := Z₂.move hF T S₃ x₃
  have hint : (b.length : Int) - ((⟨(b.cps.toList.drop (runOf wsC b 0)).toArray⟩ : Str).length : Int) = ((runOf wsC b 0 : Nat) : Int) := by rw [hbl]; omega
  by_cases h35 : b.cps[runOf wsC b 0]? = some 35
  · refine tell_hash (s := { s with heap := h₃, toks := _ }) (n := n) (at' := runOf wsC b 0) G R I T hF Z₃ hi hb hk hlen hsum hvl rfl (congrArg (fun z : Int => some (Value.int z _)) hint) h35 (fun j c h1 h2 h3 h4 h' tk' u' kp => ?_) fun h1 h' tk' m' Z' x' => ?_
    · exact hsome h35 j c h1 h2 h3 h4 h' tk' u' kp
    · exact hnext (.inr ⟨h35, h1⟩) h' tk' m' Z' ((x₂.trans x₃).trans x')
  · refine tell_not (s := { s with heap := h₃, toks := _ }) (n := n) (at' := runOf wsC b 0) G R I T hF Z₃ hi hb hk hlen hsum hvl rfl (congrArg (fun z : Int => some (Value.int z _)) hint) h35 hrun (fun h1 h' tk' u' kp => ?_) fun h1 h' tk' Z' x' => ?_
    · exact hstop h1 h35 h' tk' u' kp
    · exact hnext (.inl h1) h' tk' _ Z' ((x₂.trans x₃).trans x')
end
end
section
open PySem PySem.W PyProof.Rows PySem.Calls PySem.Builtin PySem.Builtin.Str PySem.StrLaws
set_option maxRecDepth 100000
abbrev sumLen (ys : List Str) : Nat := (ys.map (·.length)).sum
/-- what the rows tell, one by one -/
inductive Tells (ys : List Str) : Nat → Nat ⊕ (Nat × Nat × Nat) → Prop
  | fin {k} : k = ys.length → Tells ys k (.inl (sumLen ys))
  | stop {k b} : ys[k]? = some b → runOf wsC b 0 < b.length → b.cps[runOf wsC b 0]? ≠ some 35 → Tells ys k (.inl (sumLen (ys.take k) + runOf wsC b 0))
  | bad {k b j c} : ys[k]? = some b → b.cps[runOf wsC b 0]? = some 35 → runOf wsC b 0 ≤ j → b.cps[j]? = some c → badC c = true → (∀ i, runOf wsC b 0 ≤ i → i < j → badAt b i = false) → Tells ys k (.inr (c, k, j))
  | next {k b r} : ys[k]? = some b → (runOf wsC b 0 = b.length ∨ (b.cps[runOf wsC b 0]? = some 35 ∧ ∀ i, runOf wsC b 0 ≤ i → i < b.length → badAt b i = false)) → Tells ys (k + 1) r → Tells ys k r
section
variable {w : World} {A : Around} {E : Value → Shared → Prop} {s : Shared} {mg mb : Str → Option Value} {outer : List Env}
theorem loose_cell {h : Heap} {a : Addr} {v : Option Value} (x : h.IsCell a v) : Loose h a := let ⟨o, e, d⟩ := x; loose_data e fun vs q => by rw [d] at q; cases q
theorem loose_rangeIter {h : Heap} {a : Addr} {i n k : Int} (x : IsRangeIter h a i n k) : Loose h a := loose_cls x rfl (by decide)
set_option maxHeartbeats 4000000 in
theorem tells_spec {n first : Nat} {d : Addr} {vs : List Value} {ys : List Str} {u : Tok} {Q : Value → Shared → Prop} (G : Gl mg mb) (R : Rm (n + 1) A outer) (I : Inv w mg mb s.heap) (T : Tab s.heap) (hF : s.heap.FunFrames {} outer)
    (dl : s.heap.IsList d vs.toArray) (hdf : d ∉ frs outer) (hi : StrsAre vs ys) (hlen : ∀ b ∈ ys, b.length ≤ 8) (hyl : ys.length ≤ 9) (hfirst : first ≤ ys.length)
    (hq : ∀ q, Tells ys first (.inl q) → ∀ h' tk u', Keep (frs outer) s.heap h' → Q (.int (q : Int) u') { s with heap := h', toks := tk })
    (he : ∀ c k j, Tells ys first (.inr (c, k, j)) → ∀ h' tk u', Keep (frs outer) s.heap h' → Q (.str (tellText c k j) u') { s with heap := h', toks := tk }) :
    wpAny (model P0 w) A (call (.ref 112) [.ref d, .int first u]) Q E s := by
  have hvl : vs.length = ys.length := hi.length
  have hsum : sumLen ys ≤ 100000 := by
    have : ∀ (l : List Str), (∀ b ∈ l, b.length ≤ 8) → sumLen l ≤ 8 * l.length := by
      intro l
      induction l with
      | nil => intro _; exact Nat.le_refl _
      | cons a l ih =>
        intro h
        have h1 := ih fun b hb => h b (List.mem_cons_of_mem _ hb)
        have h2 := h a (List.mem_cons_self ..)
        simp only [sumLen, List.map_cons, List.sum_cons, List.length_cons] at h1 ⊢
        omega
    have := this ys hlen
    omega
  refine enterC (i := 16) (c := 111) (binds := [("due", .ref d), ("first", .int first u)]) R I (by decide) (fun pm => by rfl) (fun L x hx => ?_) fun L h₁ tk₁ hL hLs S hcell R' => ?_
  · simp only [List.mem_cons, List.not_mem_nil, or_false] at hx
    rcases hx with rfl | rfl
    · exact .inr ⟨rfl, rfl⟩
    · exact .inl rfl
  have cd : h₁.IsCell (L + 1) (some (.ref d)) := hcell "due" _ (cell_due L)
  have ck : h₁.IsCell (L + 2) none := hcell "k" _ (cell_k L)
  have hX : (evT L).locals ∈ XF L outer := by show L ∈ XF L outer; simp
  have hdX : d ∉ XF L outer := by
    simp only [List.mem_cons, not_or]
    refine ⟨list_not88 T dl, fun z => ?_, hdf⟩
    obtain ⟨o, e, _⟩ := dl
    rw [z, S.new] at e; cases e
  have dl₁ : h₁.IsList d vs.toArray := by
    obtain ⟨o, e, z⟩ := dl
    exact ⟨o, (S.keep.1 _ _ e (by simp only [List.mem_cons, not_or] at hdX; exact hdX.1)).1 (.inl hdf), z⟩
  have n1 : s.heap.get? (L + 1) = none := Heap.get?_none_of_le (by rw [hLs]; exact Nat.le_succ _)
  have n2 : s.heap.get? (L + 2) = none := Heap.get?_none_of_le (by rw [hLs]; exact Nat.le_add_right _ 2)
  have c1X := notIn_new hF T n1 (succ_ne L)
  have c2X := notIn_new hF T n2 (succ2_ne L)
  refine wpAny_execs_cons ?_
  refine wpAny_For ?_
  refine Call_ ?_
  refine nmB G (S.inv I) rfl ?_
  refine PyProof.Rows.callWith_type1 ?_
  refine args_cons ?_
  refine nm S.ns rfl ?_
  refine args_cons ?_
  refine Call_ ?_
  refine nmB G (S.inv I) rfl ?_
  refine PyProof.Rows.callWith_builtin1 ?_
  refine args_cons ?_
  refine nmDue cd ?_
  refine args_nil ?_
  refine len_list dl₁ (by simp; omega) ?_
  refine args_nil ?_
  rw [show (vs.toArray.size : Int) = (ys.length : Int) by simp [hvl]]
  refine call_range_2 ?_
  obtain ⟨c₁, hc₁⟩ : ∃ c₁ : Nat, ys.length = first + c₁ := ⟨ys.length - first, by omega⟩
  have hrs : Builtin.Range.rangeSize (first : Int) (ys.length : Int) 1 = (c₁ : Int) := by
    rw [rangeSize_one]
    split <;> omega
  refine wpAny_pyIter_range (IsRange.new _ _ _ _ _ _ _) (range_small _ _ (by omega) (by omega)) ?_
  rw [hrs]
  rw [Heap.size_push]
  generalize hh₃ : (h₁.push _).push _ = h₃
  have k₃ : ∀ b o, h₁.get? b = some o → h₃.get? b = some o := fun b o e => by rw [← hh₃]; exact Heap.get?_push_of_some _ (Heap.get?_push_of_some _ e)
  obtain ⟨It, hIt⟩ : ∃ It, It = h₁.objs.size + 1 := ⟨_, rfl⟩
  have it₃ : IsRangeIter h₃ It (first : Int) (c₁ : Int) 1 := by
    rw [← hh₃, hIt, ← Heap.size_push]
    exact Heap.get?_push_size _ rfl
  rw [← hIt]
  have fIt : h₁.get? It = none := Heap.get?_none_of_le (by rw [hIt]; exact Nat.le_succ _)
  clear hh₃ hIt
  have hIt0 : s.heap.get? It = none := S.keep.none T fIt
  have hIL : It ≠ L := fun z => by
    obtain ⟨o, _, _, e, _⟩ := S.ns
    rw [z] at fIt; rw [fIt] at e; cases e
  have hItX := notIn_new hF T hIt0 hIL
  have hI1 : L + 1 ≠ It := fun z => by
    obtain ⟨o, e, _⟩ := cd
    rw [z, fIt] at e; cases e
  have hI2 : L + 2 ≠ It := fun z => by
    obtain ⟨o, e, _⟩ := ck
    rw [z, fIt] at e; cases e
  have hId : d ≠ It := fun z => by
    obtain ⟨o, e, _⟩ := dl₁
    rw [z, fIt] at e; cases e
  have h12 : L + 1 ≠ L + 2 := fun z => absurd (Nat.add_left_cancel z) (by decide)
  have hd2 : d ≠ L + 2 := fun z => by
    obtain ⟨o, e, _⟩ := dl
    rw [z, n2] at e; cases e
  have S₃ := S.keeps k₃
  refine codeAny_forLoop (fun k s' => ∃ i h' tk m' v, k = c₁ - i ∧ i ≤ c₁ ∧ s' = { s with heap := h', toks := tk } ∧ St (frs outer) s.heap L m' h' ∧ h'.IsCell (L + 1) (some (.ref d)) ∧ h'.IsCell (L + 2) v ∧ h'.IsList d vs.toArray ∧
    IsRangeIter h' It ((first + i : Nat) : Int) ((c₁ : Int) - (i : Nat)) 1 ∧ (∀ r, Tells ys (first + i) r → Tells ys first r)) ?_ c₁
    ⟨0, h₃, _, _, none, rfl, Nat.zero_le _, rfl, S₃, cd.keeps k₃, ck.keeps k₃, dl₁.at fun o e => k₃ _ _ e, by simpa using it₃, fun _ z => z⟩
  rintro k s' ⟨i, h', tk, m', v, rfl, hi1, rfl, S', cd', ck', dl', it', hr'⟩
  by_cases hend : i = c₁
  · subst hend
    refine wpAny_pyNext_range_end R'.hd it' (by omega) fun h₄ x₄ => ?_
    have S₄ : St (frs outer) s.heap L m' h₄ := S'.ext hIt0 hIL x₄ (loose_rangeIter it')
    have cd₄ : h₄.IsCell (L + 1) (some (.ref d)) := let ⟨o, e, z⟩ := cd'; ⟨o, x₄ _ _ hI1 e, z⟩
    have dl₄ : h₄.IsList d vs.toArray := let ⟨o, e, z⟩ := dl'; ⟨o, x₄ _ _ hId e, z⟩
    refine wpAny_execs_nil ?_
    refine wpAny_execs_cons ?_
    refine wpAny_Return_some ?_
    refine Call_ ?_
    refine nmB G (S₄.inv I) rfl ?_
    refine PyProof.Rows.callWith_builtin1 ?_
    refine args_cons ?_
    refine MethodCall_ ?_
    refine Constant_str ?_
    with_reducible refine GM.join ?_
    refine callM ?_
    refine args_cons ?_
    refine nmDue cd₄ ?_
    refine args_nil ?_
    refine join_list (ys := ys) dl₄ (by simpa using hi) (by have : (Str.ofString "").length = 0 := (by decide +kernel); rw [this]; have := hsum; simp only [sumLen] at this; omega) fun t₄ tk₄ => ?_
    refine args_nil ?_
    refine P.len_str (by rw [join_len]; have := hsum; simp only [sumLen] at this; omega) ?_
    have hh := hq _ (hr' _ (.fin hc₁.symm)) h₄
    rw [sumLen, ← join_len] at hh
    exact hh _ _ S₄.keep
  · have hlt : first + i < ys.length := by omega
    refine wpAny_pyNext_range_item it' (by omega) fun h₄ it₄ x₄ => ?_
    have S₄ : St (frs outer) s.heap L m' h₄ := S'.ext hIt0 hIL x₄.extBut (loose_rangeIter it')
    have cd₄ : h₄.IsCell (L + 1) (some (.ref d)) := let ⟨o, e, z⟩ := cd'; ⟨o, x₄.extBut _ _ hI1 e, z⟩
    have ck₄ : h₄.IsCell (L + 2) v := let ⟨o, e, z⟩ := ck'; ⟨o, x₄.extBut _ _ hI2 e, z⟩
    have dl₄ : h₄.IsList d vs.toArray := let ⟨o, e, z⟩ := dl'; ⟨o, x₄.extBut _ _ hId e, z⟩
    refine wpAny_assign_Name (wpAny_storeName_cell (s := { s with heap := h₄, toks := _ }) (env := evT L) (c := L + 2) rfl rfl (cell_k L) ck₄ fun h₅ ck₅ x₅ => ?_)
    have S₅ : St (frs outer) s.heap L m' h₅ := S₄.ext n2 (succ2_ne L) x₅.extBut (loose_cell ck₄)
    have Z₅ : TS outer s.heap L d m' (first + i) vs h₅ := ⟨S₅, let ⟨o, e, z⟩ := cd₄; ⟨o, x₅.extBut _ _ h12 e, z⟩, ⟨_, ck₅⟩, let ⟨o, e, z⟩ := dl₄; ⟨o, x₅.extBut _ _ hd2 e, z⟩, n1, n2, hdX⟩
    have it₅ : IsRangeIter h₅ It (((first + i : Nat) : Int) + 1) ((c₁ : Int) - (i : Nat) - 1) 1 := x₅.extBut _ _ (Ne.symm hI2) it₄
    have hb : ys[first + i]? = some ys[first + i] := List.getElem?_eq_getElem hlt
    refine tell_turn (s := { s with heap := h₅, toks := _ }) (n := n) G R' I T hF Z₅ hi hb (by omega) (hlen _ (List.getElem_mem hlt)) hsum (by omega) (fun a1 a2 h' tk' u' kp => ?_) (fun a1 j c a2 a3 a4 a5 h' tk' u' kp => ?_) fun a1 h' tk' m₆ Z₆ x₆ => ?_
    · exact hq _ (hr' _ (.stop hb a1 a2)) h' tk' u' kp
    · exact he _ _ _ (hr' _ (.bad hb a1 a2 a3 a4 a5)) h' tk' u' kp
    · obtain ⟨t₆, ck₆⟩ := Z₆.ck
      refine ⟨c₁ - (i + 1), by omega, i + 1, h', tk', m₆, _, rfl, by omega, rfl, Z₆.S, Z₆.cd, ck₆, Z₆.dl, ?_, fun r z => hr' r (.next hb a1 z)⟩
      have := x₆ _ _ hItX it₅
      have e1 : ((first + (i + 1) : Nat) : Int) = ((first + i : Nat) : Int) + 1 := by omega
      have e2 : (c₁ : Int) - ((i + 1 : Nat) : Int) = (c₁ : Int) - (i : Nat) - 1 := by omega
      show IsRangeIter h' It _ _ 1
      rw [e1, e2]
      exact this
end
end
section
open PySem PySem.W PyProof.Rows PySem.Calls PySem.Builtin PySem.Builtin.Str PySem.StrLaws
set_option maxRecDepth 100000
theorem Skips.det {x : Str} {p : Nat} {r r' : Nat ⊕ Nat} (h : Skips x p r) (h' : Skips x p r') : r = r' := by
  induction h with
  | stop e =>
    cases h' with
    | stop e' => rfl
    | err e' => rw [e] at e'; cases e'
    | step e' n _ => rw [e] at e'; cases e'; exact absurd rfl n
  | err e =>
    cases h' with
    | stop e' => rw [e] at e'; cases e'
    | err e' => rw [e] at e'; cases e'; rfl
    | step e' n _ => rw [e] at e'; cases e'
  | step e n _ ih =>
    cases h' with
    | stop e' => rw [e] at e'; cases e'; exact absurd rfl n
    | err e' => rw [e] at e'; cases e'
    | step e' n' z => rw [e] at e'; cases e'; exact ih z
theorem skips_ws {x : Str} {p d : Nat} {r : Nat ⊕ Nat} (hp : p + d ≤ x.length) (hd : runOf wsC x p = d + runOf wsC x (p + d)) (h : Skips x (p + d) r) : Skips x p r := by
  have e0 : p + runOf wsC x p = p + d + runOf wsC x (p + d) := by omega
  have hle := runOf_le wsC x (p + d) hp
  cases h with
  | stop e =>
    by_cases hz : d = 0
    · subst hz; exact .stop (by rw [e0]; exact e)
    · exact .step (by rw [e0]; exact e) (by omega) (.stop e)
  | err e => exact .err (by rw [e0]; exact e)
  | step e n z =>
    have := com_le hle e
    exact .step (by rw [e0]; exact e) (by omega) z
theorem runOf_cut {x : Str} {p : Nat} {B C : List Nat} (f : Nat → Bool) (h : x.cps.toList.drop p = B ++ C) : runOf f x p = ((B ++ C).takeWhile f).length := by unfold runOf; rw [h]
theorem tw_all {f : Nat → Bool} {B C : List Nat} (h : ∀ c ∈ B, f c = true) : ((B ++ C).takeWhile f).length = B.length + (C.takeWhile f).length := by
  rw [List.takeWhile_append_of_pos h, List.length_append]
theorem tw_stop {f : Nat → Bool} {B C : List Nat} {c : Nat} (h : ∀ c ∈ B, f c = true) (hc : f c = false) : ((B ++ c :: C).takeWhile f).length = B.length := by
  rw [tw_all h, List.takeWhile_cons, hc]; rfl
/-- a run that stops within a list -/
theorem tw_split (f : Nat → Bool) : ∀ B : List Nat, (∀ c ∈ B, f c = true) ∨ ∃ D c R, B = D ++ c :: R ∧ (∀ c ∈ D, f c = true) ∧ f c = false
  | [] => .inl (fun _ h => nomatch h)
  | a :: B => by
    cases ha : f a with
    | false => exact .inr ⟨[], a, B, rfl, (fun _ h => nomatch h), ha⟩
    | true =>
      rcases tw_split f B with h | ⟨D, c, R, e, h1, h2⟩
      · exact .inl fun c hc => by rcases List.mem_cons.mp hc with rfl | hc; exact ha; exact h c hc
      · exact .inr ⟨a :: D, c, R, by rw [e]; rfl, fun c hc => by rcases List.mem_cons.mp hc with rfl | hc; exact ha; exact h1 c hc, h2⟩
theorem lines_lastL : ∀ {l : List Str}, Lines l → ∀ b ∈ l, LastL b
  | [b], h, c, hc => by obtain rfl := List.mem_singleton.mp hc; exact h
  | b :: d :: r, h, c, hc => by
    rcases List.mem_cons.mp hc with rfl | hc
    · exact .inl h.1
    · exact lines_lastL h.2 c hc
theorem lines_take : ∀ {l : List Str}, Lines l → ∀ k b, k + 1 < l.length → l[k]? = some b → Full b
  | [b], h, k, c, hk, e => by simp at hk
  | b :: d :: r, h, 0, c, hk, e => by simp at e; subst e; exact h.1
  | b :: d :: r, h, k + 1, c, hk, e => lines_take (l := d :: r) h.2 k c (by simpa using hk) (by simpa using e)
theorem lines_sub {l l' : List Str} (s : l'.Sublist l) (h : Lines l) : Lines l' := by
  induction s with
  | slnil => trivial
  | @cons l₁ l₂ a s ih =>
    refine ih ?_
    cases l₂ with
    | nil => trivial
    | cons b r => exact h.2
  | @cons_cons l₁ l₂ a s ih =>
    cases l₂ with
    | nil => rw [List.sublist_nil.mp s]; exact h
    | cons b r =>
      have := ih h.2
      cases l₁ with
      | nil => exact .inl h.1
      | cons c q => exact ⟨h.1, this⟩
/-- before a row's last sign there is no line feed -/
theorem lastL_no {b : Str} (h : LastL b) {j c : Nat} (hj : j + 1 < b.length) (hc : b.cps[j]? = some c) : c ≠ 10 := by
  have hc' : b.cps.toList[j]? = some c := by simpa using hc
  rcases h with ⟨y, e, hy⟩ | h
  · have hl : b.length = y.length + 1 := by
      show b.cps.size = _
      rw [← Array.length_toList, e]; simp
    rw [e, List.getElem?_append_left (by omega)] at hc'
    exact fun z => hy (z ▸ List.mem_of_getElem? hc')
  · exact fun z => h (z ▸ List.mem_of_getElem? hc')
theorem bad_il {c : Nat} (h : c ≠ 10) : ilC c = badC c := by
  unfold ilC badC
  by_cases h9 : c = 9
  · subst h9; decide
  · have h1 : (c == 9) = false := by simpa using h9
    have h2 : (c == 10) = false := by simpa using h
    rw [h1, h2, show (c != 9) = true by simp [bne, h1]]
    simp
theorem il_ten : ilC 10 = true := by decide
abbrev flat (ys : List Str) : List Nat := ys.flatMap (·.cps.toList)
theorem flat_len (ys : List Str) : (flat ys).length = sumLen ys := by
  unfold flat sumLen
  rw [List.length_flatMap]
  congr 1
theorem cut_at {ys : List Str} {k : Nat} {b : Str} (hb : ys[k]? = some b) : flat ys = flat (ys.take k) ++ (b.cps.toList ++ flat (ys.drop (k + 1))) ∧ sumLen (ys.take (k + 1)) = sumLen (ys.take k) + b.length := by
  obtain ⟨hl, e⟩ := List.getElem?_eq_some_iff.mp hb
  have h1 : ys = ys.take k ++ b :: ys.drop (k + 1) := by
    conv => lhs; rw [← List.take_append_drop k ys, List.drop_eq_getElem_cons hl, e]
  refine ⟨?_, ?_⟩
  · conv => lhs; rw [h1]
    unfold flat
    rw [List.flatMap_append, List.flatMap_cons]
  · rw [List.take_add_one, hb]
    simp [sumLen]
theorem drop_cut {x : Str} {A B : List Nat} (h : x.cps.toList = A ++ B) : x.cps.toList.drop A.length = B := by rw [h]; simp
theorem at_cut {x : Str} {A B : List Nat} (h : x.cps.toList = A ++ B) (j : Nat) : x.cps[A.length + j]? = B[j]? := by
  have : x.cps.toList[A.length + j]? = B[j]? := by rw [h, List.getElem?_append_right (by omega)]; congr 1; omega
  rw [← this]; simp
theorem len_cut {x : Str} {A B : List Nat} (h : x.cps.toList = A ++ B) : x.length = A.length + B.length := by
  show x.cps.size = _
  rw [← Array.length_toList, h, List.length_append]
theorem toList_len (b : Str) : b.cps.toList.length = b.length := Array.length_toList
def conv (ys : List Str) : Nat ⊕ (Nat × Nat × Nat) → Nat ⊕ Nat
  | .inl q => .inl q
  | .inr (_, k, j) => .inr (sumLen (ys.take k) + j)
/-- a row's own signs: its blanks, what stands behind them -/
theorem own_run (f : Nat → Bool) (b : Str) : (∀ c ∈ b.cps.toList, f c = true) ∧ runOf f b 0 = b.length ∨
    ∃ D c R, b.cps.toList = D ++ c :: R ∧ (∀ c ∈ D, f c = true) ∧ f c = false ∧ runOf f b 0 = D.length ∧ b.cps[D.length]? = some c := by
  rcases tw_split f b.cps.toList with h | ⟨D, c, R, e, h1, h2⟩
  · refine .inl ⟨h, ?_⟩
    unfold runOf
    rw [List.drop_zero]
    have := tw_all (C := []) h
    rw [List.append_nil] at this
    rw [this, toList_len]; simp
  · refine .inr ⟨D, c, R, e, h1, h2, ?_, ?_⟩
    · unfold runOf
      rw [List.drop_zero, e, tw_stop h1 h2]
    · have : b.cps.toList[D.length]? = some c := by rw [e]; simp
      simpa using this
theorem tells_skips {ys : List Str} {x : Str} (hx : x.cps.toList = flat ys) (hl : Lines ys) {k : Nat} {r : Nat ⊕ (Nat × Nat × Nat)} (h : Tells ys k r) : Skips x (sumLen (ys.take k)) (conv ys r) := by
  have hxl : x.length = sumLen ys := by show x.cps.size = _; rw [← Array.length_toList, hx, flat_len]
  induction h with
  | fin hk =>
    subst hk
    rw [List.take_length]
    refine .stop ?_
    rw [runOf_end (by omega), ← hxl]
    unfold com
    rw [if_neg (by simp [Str.length])]
    rfl
  | @stop k b hb h1 h2 =>
    obtain ⟨e, _⟩ := cut_at hb
    rw [← hx] at e
    have hA := flat_len (ys.take k)
    rcases own_run wsC b with ⟨_, g⟩ | ⟨D, c, R, eb, g1, g2, g3, g4⟩
    · omega
    · rw [eb, List.append_assoc] at e
      have hrun : runOf wsC x (sumLen (ys.take k)) = D.length := by
        rw [← hA, runOf_cut wsC (drop_cut e)]
        exact tw_stop g1 g2
      have hrun2 : runOf wsC x (sumLen (ys.take k) + D.length) = 0 := by
        have e' : x.cps.toList = (flat (ys.take k) ++ D) ++ ([] ++ (c :: R ++ flat (ys.drop (k + 1)))) := by rw [e, List.append_assoc, List.nil_append]
        have := runOf_cut wsC (drop_cut e')
        rw [List.length_append, hA] at this
        rw [this]
        exact tw_stop (B := []) (fun _ h => nomatch h) g2
      have hcom : com x (sumLen (ys.take k) + D.length) = .inl (sumLen (ys.take k) + D.length) := by
        unfold com
        rw [if_neg ?_]
        rw [← hA, at_cut e]
        rw [g3, g4] at h2
        simpa using h2
      rw [g3]
      show Skips x _ (.inl _)
      by_cases hD : D.length = 0
      · rw [hD, Nat.add_zero] at hcom ⊢
        exact .stop (by rw [hrun, hD, Nat.add_zero]; exact hcom)
      · exact .step (by rw [hrun]; exact hcom) (by omega) (.stop (by rw [hrun2, Nat.add_zero]; exact hcom))
  | @bad k b j c hb h1 h2 h3 h4 h5 =>
    obtain ⟨e, _⟩ := cut_at hb
    rw [← hx] at e
    have hA := flat_len (ys.take k)
    have hL := lines_lastL hl b (List.mem_of_getElem? hb)
    rcases own_run wsC b with ⟨_, g⟩ | ⟨D, c', R, eb, g1, g2, g3, g4⟩
    · rw [g] at h1; simp [Str.length] at h1
    · rw [g3] at h1 h2 h5
      obtain rfl : c' = 35 := Option.some.inj (g4.symm.trans h1)
      have hrun : runOf wsC x (sumLen (ys.take k)) = D.length := by
        rw [eb, List.append_assoc] at e
        rw [← hA, runOf_cut wsC (drop_cut e)]
        exact tw_stop g1 g2
      have hjl : j < b.length := (Array.getElem?_eq_some_iff.mp h3).1
      have hjD : D.length < j := by
        rcases Nat.lt_or_ge D.length j with q | q
        · exact q
        · obtain rfl : j = D.length := by omega
          rw [h3] at g4
          cases g4
          cases h4
      have hc10 : c ≠ 10 := fun z => by subst z; cases h4
      -- the row behind its #
      have er : b.cps.toList.drop (D.length + 1) = (b.cps.toList.drop (D.length + 1)).take (j - D.length - 1) ++ c :: b.cps.toList.drop (j + 1) := by
        conv => lhs; rw [← List.take_append_drop (j - D.length - 1) (b.cps.toList.drop (D.length + 1)), List.drop_drop]
        have hj' : j < b.cps.toList.length := by rw [toList_len]; exact hjl
        have hc' : b.cps.toList[j] = c := by
          have : b.cps.toList[j]? = some c := by simpa using h3
          rw [List.getElem?_eq_getElem hj'] at this
          exact Option.some.inj this
        rw [show D.length + 1 + (j - D.length - 1) = j by omega, List.drop_eq_getElem_cons hj', hc']
      have hmid : ∀ a ∈ (b.cps.toList.drop (D.length + 1)).take (j - D.length - 1), okC a = true ∧ notNl a = true := by
        intro a ha
        obtain ⟨i, hi, ei⟩ := List.getElem_of_mem ha
        rw [List.length_take, List.length_drop, toList_len] at hi
        rw [List.getElem_take, List.getElem_drop] at ei
        have hai : b.cps[D.length + 1 + i]? = some a := by
          have : b.cps.toList[D.length + 1 + i]? = some a := by rw [List.getElem?_eq_getElem (by rw [toList_len]; omega), ei]
          simpa using this
        have hb0 := h5 (D.length + 1 + i) (by omega) (by omega)
        unfold badAt at hb0
        rw [hai] at hb0
        have hb0 : badC a = false := hb0
        have h10 : a ≠ 10 := lastL_no hL (by omega) hai
        exact ⟨by unfold okC; rw [bad_il h10, hb0]; rfl, by unfold notNl; simpa using h10⟩
      have eX : x.cps.toList = (flat (ys.take k) ++ b.cps.toList.take (D.length + 1)) ++ ((b.cps.toList.drop (D.length + 1)).take (j - D.length - 1) ++ c :: (b.cps.toList.drop (j + 1) ++ flat (ys.drop (k + 1)))) := by
        rw [e, List.append_assoc]
        congr 1
        conv => lhs; rw [← List.take_append_drop (D.length + 1) b.cps.toList, er]
        simp [List.append_assoc]
      have hlenA : (flat (ys.take k) ++ b.cps.toList.take (D.length + 1)).length = sumLen (ys.take k) + D.length + 1 := by
        rw [List.length_append, hA, List.length_take, toList_len]; omega
      have hlm : ((b.cps.toList.drop (D.length + 1)).take (j - D.length - 1)).length = j - D.length - 1 := by
        rw [List.length_take, List.length_drop, toList_len]; omega
      have hok : runOf okC x (sumLen (ys.take k) + D.length + 1) = j - D.length - 1 := by
        rw [← hlenA, runOf_cut okC (drop_cut eX), tw_stop (fun a ha => (hmid a ha).1) (by unfold okC; rw [bad_il hc10, h4]; rfl), hlm]
      have hno : runOf notNl x (sumLen (ys.take k) + D.length + 1) ≠ j - D.length - 1 := by
        rw [← hlenA, runOf_cut notNl (drop_cut eX), tw_all (fun a ha => (hmid a ha).2), hlm, List.takeWhile_cons, show notNl c = true by unfold notNl; simpa using hc10]
        simp
      refine .err ?_
      rw [hrun]
      unfold com
      have h35 : x.cps[sumLen (ys.take k) + D.length]? = some 35 := by
        rw [eb, List.append_assoc] at e
        rw [← hA, at_cut e]; simp
      rw [if_pos h35, if_neg (by rw [hok]; exact Ne.symm hno), hok]
      show Sum.inr _ = Sum.inr _
      congr 1
      omega
  | @next k b r hb h1 h2 ih =>
    obtain ⟨e, es⟩ := cut_at hb
    rw [es] at ih
    rw [← hx] at e
    have hA := flat_len (ys.take k)
    have hL := lines_lastL hl b (List.mem_of_getElem? hb)
    have hple : sumLen (ys.take k) + b.length ≤ x.length := by
      rw [len_cut e, hA, List.length_append, toList_len]; omega
    rcases own_run wsC b with ⟨g0, g⟩ | ⟨D, c', R, eb, g1, g2, g3, g4⟩
    · refine skips_ws hple ?_ ih
      have e2 : x.cps.toList = (flat (ys.take k) ++ b.cps.toList) ++ flat (ys.drop (k + 1)) := by rw [e, List.append_assoc]
      have h3 := drop_cut e2
      rw [List.length_append, hA, toList_len] at h3
      have h4 : runOf wsC x (sumLen (ys.take k) + b.length) = ((flat (ys.drop (k + 1))).takeWhile wsC).length := by unfold runOf; rw [h3]
      rw [h4, ← hA, runOf_cut wsC (drop_cut e), tw_all g0, toList_len]
    · have hDl : D.length < b.length := by rw [← toList_len, eb]; simp
      rcases h1 with h1 | ⟨h1, h5⟩
      · omega
      rw [g3] at h1 h5
      obtain rfl : c' = 35 := Option.some.inj (g4.symm.trans h1)
      have hrun : runOf wsC x (sumLen (ys.take k)) = D.length := by
        rw [eb, List.append_assoc] at e
        rw [← hA, runOf_cut wsC (drop_cut e)]
        exact tw_stop g1 g2
      have h35 : x.cps[sumLen (ys.take k) + D.length]? = some 35 := by
        rw [eb, List.append_assoc] at e
        rw [← hA, at_cut e]; simp
      have eX : x.cps.toList = (flat (ys.take k) ++ D ++ [35]) ++ (R ++ flat (ys.drop (k + 1))) := by
        rw [e, eb]; simp [List.append_assoc]
      have hlenA : (flat (ys.take k) ++ D ++ [35]).length = sumLen (ys.take k) + D.length + 1 := by
        rw [List.length_append, List.length_append, hA]; rfl
      have hbl : b.length = D.length + 1 + R.length := by rw [← toList_len, eb]; simp; omega
      have hR : ∀ a ∈ R, a ≠ 10 → okC a = true ∧ notNl a = true := by
        intro a ha h10
        obtain ⟨i, hi, ei⟩ := List.getElem_of_mem ha
        have hai : b.cps[D.length + 1 + i]? = some a := by
          have : b.cps.toList[D.length + 1 + i]? = some a := by
            rw [eb, List.getElem?_append_right (by omega), show D.length + 1 + i - D.length = i + 1 by omega, List.getElem?_cons_succ, List.getElem?_eq_getElem hi, ei]
          simpa using this
        have hb0 := h5 (D.length + 1 + i) (by omega) (by omega)
        unfold badAt at hb0
        rw [hai] at hb0
        have hb0 : badC a = false := hb0
        exact ⟨by unfold okC; rw [bad_il h10, hb0]; rfl, by unfold notNl; simpa using h10⟩
      have full : Full b → Skips x (sumLen (ys.take k)) (conv ys r) := by
        rintro ⟨y, ey, hy⟩
        obtain ⟨y', eR, hy'⟩ : ∃ y', R = y' ++ [10] ∧ ∀ a ∈ y', a ≠ 10 := by
          rw [eb] at ey
          rcases List.eq_nil_or_concat R with rfl | ⟨y', a, rfl⟩
          · have := congrArg List.getLast? ey
            simp at this
          · rw [List.concat_eq_append] at ey ⊢
            have h2 : (D ++ 35 :: y') ++ [a] = y ++ [10] := by rw [← ey]; simp
            obtain ⟨h3, h4⟩ := List.append_inj' h2 rfl
            obtain rfl : a = 10 := by simpa using h4
            exact ⟨y', rfl, fun a ha z => hy (by rw [← h3, ← z]; exact List.mem_append_right _ (List.mem_cons_of_mem _ ha))⟩
        subst eR
        rw [show (y' ++ [10]) ++ flat (ys.drop (k + 1)) = y' ++ 10 :: flat (ys.drop (k + 1)) by simp] at eX
        have hmid : ∀ a ∈ y', okC a = true ∧ notNl a = true := fun a ha => hR a (List.mem_append_left _ ha) (hy' a ha)
        have hok : runOf okC x (sumLen (ys.take k) + D.length + 1) = y'.length := by
          rw [← hlenA, runOf_cut okC (drop_cut eX)]
          exact tw_stop (fun a ha => (hmid a ha).1) (by decide)
        have hno : runOf notNl x (sumLen (ys.take k) + D.length + 1) = y'.length := by
          rw [← hlenA, runOf_cut notNl (drop_cut eX)]
          exact tw_stop (fun a ha => (hmid a ha).2) (by decide)
        have hcom : com x (sumLen (ys.take k) + D.length) = .inl (sumLen (ys.take k) + D.length + 1 + y'.length) := by
          unfold com
          rw [if_pos h35, if_pos (hok.trans hno.symm), hno]
        refine .step (by rw [hrun]; exact hcom) (by omega) ?_
        rw [List.length_append] at hbl
        have hq : sumLen (ys.take k) + D.length + 1 + y'.length + 1 = sumLen (ys.take k) + b.length := by rw [hbl]; simp; omega
        refine skips_ws (d := 1) (by omega) ?_ (by rw [hq]; exact ih)
        have hcx : x.cps[sumLen (ys.take k) + D.length + 1 + y'.length]? = some 10 := by
          rw [← hlenA, at_cut eX]; simp
        rw [runOf_step hcx, if_pos (by decide)]; omega
      by_cases hk : k + 1 < ys.length
      · exact full (lines_take hl k b hk hb)
      rcases hL with hL | hL
      · exact full hL
      · have hC : flat (ys.drop (k + 1)) = [] := by rw [List.drop_of_length_le (by omega)]; rfl
        rw [hC] at eX
        have hmid : ∀ a ∈ R, okC a = true ∧ notNl a = true := fun a ha => hR a ha fun z => hL (by rw [eb, ← z]; exact List.mem_append_right _ (List.mem_cons_of_mem _ ha))
        have hok : runOf okC x (sumLen (ys.take k) + D.length + 1) = R.length := by
          rw [← hlenA, runOf_cut okC (drop_cut eX), tw_all (fun a ha => (hmid a ha).1)]; rfl
        have hno : runOf notNl x (sumLen (ys.take k) + D.length + 1) = R.length := by
          rw [← hlenA, runOf_cut notNl (drop_cut eX), tw_all (fun a ha => (hmid a ha).2)]; rfl
        have hcom : com x (sumLen (ys.take k) + D.length) = .inl (sumLen (ys.take k) + b.length) := by
          unfold com
          rw [if_pos h35, if_pos (hok.trans hno.symm), hno, hbl]
          congr 1; omega
        exact .step (by rw [hrun]; exact hcom) (by omega) ih
end
section
open PySem PySem.W PyProof.Rows PySem.Calls PySem.Builtin PySem.Builtin.Str PySem.StrLaws
set_option maxRecDepth 100000
theorem tells_bad_at {ys : List Str} {first c k j : Nat} (h : Tells ys first (.inr (c, k, j))) : ∃ b, ys[k]? = some b ∧ b.cps[j]? = some c ∧ badC c = true := by
  generalize hr : (Sum.inr (c, k, j) : Nat ⊕ (Nat × Nat × Nat)) = r at h
  induction h with
  | fin _ => cases hr
  | stop _ _ _ => cases hr
  | bad hb _ _ h3 h4 _ => cases hr; exact ⟨_, hb, h3, h4⟩
  | next _ _ _ ih => exact ih hr
theorem full_take : ∀ (ys : List Str), Lines ys → ∀ k, k < ys.length → ∀ b ∈ ys.take k, Full b := by
  intro ys hl k hk b hb
  obtain ⟨i, hi, e⟩ := List.getElem_of_mem hb
  rw [List.length_take] at hi
  rw [List.getElem_take] at e
  exact lines_take hl i b (by omega) (by rw [List.getElem?_eq_getElem (by omega), e])
theorem count_full {b : Str} (h : Full b) : b.cps.toList.count 10 = 1 := by
  obtain ⟨y, e, hy⟩ := h
  rw [e, List.count_append, List.count_eq_zero.mpr hy]; rfl
theorem count_flat : ∀ (l : List Str), (∀ b ∈ l, Full b) → (flat l).count 10 = l.length
  | [], _ => rfl
  | a :: l, h => by
    unfold flat
    rw [List.flatMap_cons, List.count_append, count_full (h a (List.mem_cons_self ..))]
    have := count_flat l fun b hb => h b (List.mem_cons_of_mem _ hb)
    unfold flat at this
    rw [this, List.length_cons]; omega
theorem flat_end : ∀ (l : List Str), (∀ b ∈ l, Full b) → l = [] ∨ ∃ z, flat l = z ++ [10] := by
  intro l h
  rcases List.eq_nil_or_concat l with rfl | ⟨l', a, rfl⟩
  · exact .inl rfl
  · right
    obtain ⟨y, e, _⟩ := h a (by simp)
    refine ⟨flat l' ++ y, ?_⟩
    unfold flat
    rw [List.concat_eq_append, List.flatMap_append]
    simp [e]
theorem coords {ys : List Str} {x : Str} (hx : x.cps.toList = flat ys) (hl : Lines ys) {k j c : Nat} {b : Str} (hb : ys[k]? = some b) (hc : b.cps[j]? = some c) :
    x.cps[sumLen (ys.take k) + j]? = some c ∧ linesBefore x (sumLen (ys.take k) + j) = k ∧ colOf x (sumLen (ys.take k) + j) = j + 1 := by
  obtain ⟨e, _⟩ := cut_at hb
  rw [← hx] at e
  have hA := flat_len (ys.take k)
  have hj : j < b.length := (Array.getElem?_eq_some_iff.mp hc).1
  have hk : k < ys.length := (List.getElem?_eq_some_iff.mp hb).1
  have hL := lines_lastL hl b (List.mem_of_getElem? hb)
  have hf := full_take ys hl k hk
  have ht : x.cps.toList.take (sumLen (ys.take k) + j) = flat (ys.take k) ++ b.cps.toList.take j := by
    rw [e, ← hA, List.take_length_add_append, List.take_append_of_le_length (by rw [toList_len]; omega)]
  have hno : ∀ a ∈ b.cps.toList.take j, a ≠ 10 := by
    intro a ha
    obtain ⟨i, hi, ei⟩ := List.getElem_of_mem ha
    rw [List.length_take, toList_len] at hi
    rw [List.getElem_take] at ei
    refine lastL_no hL (j := i) (by omega) ?_
    have : b.cps.toList[i]? = some a := by rw [List.getElem?_eq_getElem (by rw [toList_len]; omega), ei]
    simpa using this
  refine ⟨?_, ?_, ?_⟩
  · rw [← hA, at_cut e, List.getElem?_append_left (by rw [toList_len]; omega)]
    simpa using hc
  · unfold linesBefore
    rw [ht, List.count_append, count_flat _ hf, List.count_eq_zero.mpr fun z => hno 10 z rfl, List.length_take]
    omega
  · unfold colOf
    have hn : ∀ a ∈ (b.cps.toList.take j).reverse, notNl a = true := fun a ha => by unfold notNl; simpa using hno a (List.mem_reverse.mp ha)
    have hl : ((b.cps.toList.take j).reverse).length = j := by rw [List.length_reverse, List.length_take, toList_len]; omega
    rw [ht, List.reverse_append]
    rcases flat_end _ hf with h0 | ⟨z, hz⟩
    · rw [h0]
      have : (flat ([] : List Str)).reverse = [] := rfl
      rw [this, tw_all hn, hl]; rfl
    · rw [hz, List.reverse_append]
      show ((_ ++ 10 :: z.reverse).takeWhile notNl).length + 1 = _
      rw [tw_stop hn (by decide), hl]
theorem look_repr : ∀ c, c < 128 → badC c = true → (reprText ⟨#[c]⟩).cps.toList = (Str.ofString "'" ++ lookT c ++ Str.ofString "'").cps.toList := by decide +kernel
theorem str_ext {a b : Str} (h : a.cps.toList = b.cps.toList) : a = b := by
  cases a; cases b
  congr 1
  exact Array.toList_inj.mp h
theorem text_eq {x : Str} {q c k j : Nat} (hb : badC c = true) (h1 : linesBefore x q = k) (h2 : colOf x q = j + 1) : errText (msgOf c) x q = tellText c k j := by
  have hr : reprText ⟨#[c]⟩ = Str.ofString "'" ++ lookT c ++ Str.ofString "'" := str_ext (look_repr c (bad_lt hb) hb)
  apply str_ext
  unfold errText tellText msgOf coordText
  rw [hr, h1, h2]
  simp only [cps_append, List.append_assoc]
  have e1 : (Str.ofString "Found invalid character ").cps.toList ++ ((Str.ofString "'").cps.toList) = (Str.ofString "Found invalid character '").cps.toList := by decide +kernel
  have e2 : (Str.ofString " (at ").cps.toList ++ (Str.empty.cps.toList ++ (Str.ofString "line ").cps.toList) = (Str.ofString " (at line ").cps.toList := by decide +kernel
  have e0 : Str.empty.cps.toList = [] := rfl
  rw [← e1]
  rw [← e2]
  simp only [e0, List.nil_append, List.append_assoc]
  rfl
end
section
open PySem PySem.W PyProof.Rows PySem.Calls PySem.Builtin PySem.Builtin.Str PySem.StrLaws
set_option maxRecDepth 100000
theorem strsAre_push {vs : List Value} {ys : List Str} (hi : StrsAre vs ys) (y : Str) (t : Tok) : StrsAre (vs ++ [.str y t]) (ys ++ [y]) := by
  induction hi with
  | nil => exact .cons y t .nil
  | cons z u _ ih => exact .cons z u ih
theorem RowsAll.at {h₀ h : Heap} : ∀ {vs : List Value} {rows : List (Str × Str)}, RowsAll h₀ h vs rows → ∀ {i : Nat} {row : Str × Str}, rows[i]? = some row → ∃ a t u, vs[i]? = some (.ref a) ∧ h.IsList a #[.str row.1 t, .str row.2 u]
  | [], [], _, i, row, e => by simp at e
  | v :: vs, r :: rs, ⟨⟨a, t, u, ev, _, l⟩, x⟩, 0, row, e => by simp at e; subst e; exact ⟨a, t, u, by rw [ev]; rfl, l⟩
  | v :: vs, r :: rs, ⟨_, x⟩, i + 1, row, e => by
    obtain ⟨a, t, u, h1, h2⟩ := RowsAll.at x (i := i) (by simpa using e)
    exact ⟨a, t, u, by simpa using h1, h2⟩
  | [], _ :: _, x, _, _, _ => x.elim
  | _ :: _, [], x, _, _, _ => x.elim
section
variable {w : World} {A : Around} {E : Value → Shared → Prop} {s : Shared} {env : Env}
theorem unpackItems_list2 {t : Addr} {x y : Value} {Q : List Value → Shared → Prop} (hh : A.handled = none) (ht : s.heap.IsList t #[x, y])
    (hQ : ∀ h', Heap.ExtBut s.heap.objs.size s.heap h' → Q [x, y] { s with heap := h' }) : wpAny (model P0 w) A (unpackItems (.ref t) 2 none) Q E s := by
  have hlt : t ≠ s.heap.objs.size := by obtain ⟨o, ho, _⟩ := ht; exact Nat.ne_of_lt (Heap.lt_size ho)
  unfold unpackItems
  refine wpAny_bind ?_
  unfold notIterableAtAll
  refine wpAny_bind (wpAny_specialOf ht.typeIs F.slot_list_iter.lookup ?_)
  refine wpAny_pure ?_
  simp only [Bool.false_eq_true, if_false]
  refine wpAny_bind (wpAny_holding (wpAny_pyIter_list ht ?_))
  have it0 : (s.heap.push { cls := .type "list_iterator", data := .fields #[.ref t, .int 0 0] }).IsListIter s.heap.objs.size t 0 := ⟨_, Heap.get?_push_size _ rfl, rfl, rfl⟩
  refine wpAny_bind (wpAny_holding ?_)
  show wpAny _ _ (pyNext (.ref s.heap.objs.size) >>= _) _ _ _
  refine wpAny_bind (wpAny_pyNext_list_item it0 (ht.push _) (x := x) rfl fun h₁ it₁ s₁ => ?_)
  have l₁ : h₁.IsList t #[x, y] := (ht.push _).extBut s₁.extBut hlt
  refine wpAny_bind (wpAny_holding ?_)
  show wpAny _ _ (pyNext (.ref s.heap.objs.size) >>= _) _ _ _
  refine wpAny_bind (wpAny_pyNext_list_item it₁ l₁ (x := y) rfl fun h₂ it₂ s₂ => ?_)
  have l₂ : h₂.IsList t #[x, y] := l₁.extBut s₂.extBut hlt
  refine wpAny_bind (wpAny_holding (wpAny_pure (wpAny_pure (wpAny_pure ?_))))
  rw [if_neg (by simp)]
  refine wpAny_bind (wpAny_holding (wpAny_pyNext_list_end hh it₂ l₂ (by rfl) fun h₃ s₃ => ?_))
  simp only [Option.isSome_none, Bool.false_eq_true, if_false]
  refine wpAny_pure (hQ h₃ fun b o hb e => s₃ b o hb (s₂.extBut b o hb (s₁.extBut b o hb (Heap.get?_push_of_some _ e))))
theorem assign_pair {a b : Str} {pa pb tp : Pos} {kk : Nat} {T : Addr} {x y : Value} {m : Str → Option Value} {Q : Unit → Shared → Prop} (hh : A.handled = none) (ht : s.heap.IsList T #[x, y])
    (ha : env.kindOf a = some .local) (hb : env.kindOf b = some .local) (hp : (env.scope.kind == .class || (env.scope.kind == .module && env.locals != env.globals)) = false) (hn : s.heap.Ns env.locals m)
    (h : ∀ (h' : Heap) (tk : Nat), h'.Ns env.locals (fun z => if z = b then some y else if z = a then some x else m z) → (∀ c o, c ≠ env.locals → s.heap.get? c = some o → h'.get? c = some o) → Q () { s with heap := h', toks := tk }) :
    wpAny (model P0 w) A (assign (.Tuple [.Name a pa, .Name b pb] kk tp) env (.ref T)) Q E s := by
  rw [arm_assign_Tuple]
  refine wpAny_bind (wpAny_standAt ?_)
  unfold unpack
  refine wpAny_bind (wpAny_holding (unpackItems_list2 hh ht fun h₁ he₁ => ?_))
  have hL : env.locals ≠ s.heap.objs.size := Nat.ne_of_lt hn.lt
  have hn₁ : h₁.Ns env.locals m := hn.at' fun o e => he₁ _ o hL e
  have up₁ : ∀ c o, s.heap.get? c = some o → h₁.get? c = some o := fun c o e => he₁ c o (Nat.ne_of_lt (Heap.lt_size e)) e
  show wpAny _ _ (assignInOrder [assign (.Name a pa) env, assign (.Name b pb) env] [x, y]) _ _ _
  refine assignInOrder_cons ?_
  refine wpAny_assign_Name (wpAny_storeName_local ha hn₁ (fun h₂ hn₂ hs₂ => ?_) hp)
  refine assignInOrder_cons ?_
  refine wpAny_assign_Name (wpAny_storeName_local hb hn₂ (fun h₃ hn₃ hs₃ => ?_) hp)
  refine assignInOrder_nil ?_
  exact h h₃ _ hn₃ fun c o hc e => hs₃.extBut c o hc (hs₂.extBut c o hc (up₁ c o e))
abbrev testsOf (ifs : List Expr) (env : Env) : Sem Bool := forIn ifs true fun c r => if r = true then do let ok ← isTrue c env (eval c env); pure (ForInStep.yield ok) else pure (ForInStep.yield r)
theorem pc_loop {elt target iter : PySem.Expr} {ifs : List Expr} {scope : Scope} {pos : Pos} {it acc : Value} {env : Env} {R : Result → Shared → Prop} (I : Nat → Shared → Prop)
    (turn : ∀ n s, I n s → wpAny (model P0 w) A (pyNext it) (fun r s₁ => match r with
      | none => R (.ok .next) s₁
      | some v => wpAny (model P0 w) A (letOwnedTupleGo target it v) (fun _ s₀ => wpAny (model P0 w) A (assign target env v) (fun _ s₂ =>
          wpAny (model P0 w) A (testsOf ifs env) (fun ok s₃ => if ok = true then wpAny (model P0 w) A (eval elt env) (fun x s₄ =>
            wpAny (model P0 w) A (call (.builtin "list.append") [acc, x]) (fun _ s₅ => ∃ m, m < n ∧ I m s₅) (notedBy (model P0 w) A env fun e s' => R (.error e) s') s₄) (notedBy (model P0 w) A env fun e s' => R (.error e) s') s₃
            else ∃ m, m < n ∧ I m s₃) (notedBy (model P0 w) A env fun e s' => R (.error e) s') s₂)
          (notedBy (model P0 w) A env fun e s' => R (.error e) s') s₀) (notedBy (model P0 w) A env fun e s' => R (.error e) s') s₁) (notedBy (model P0 w) A env fun e s' => R (.error e) s') s)
    (n : Nat) (h : I n s) : codeAny (model P0 w) A (.compLoop (.ListComp elt [⟨target, iter, ifs, 0⟩] scope pos) 0 it acc env) R s := by
  refine codeAny_loop rfl I (fun n s hI => ?_) n h
  show wpAny _ A ((compTurn (.ListComp elt [⟨target, iter, ifs, 0⟩] scope pos) 0 it acc env).onRaise (fun x => do noteFrame x env; theTreesLotGoes x)) _ _ s
  refine wpAny_noted ?_
  rw [compTurn_list]
  refine wpAny_bind (wpAny_standAt (wpAny_bind (wpAny_mono (turn n s hI) (fun r s₁ h₁ => ?_) fun _ _ h' => h')))
  cases r with
  | none => exact wpAny_pure h₁
  | some v =>
    refine wpAny_bind (wpAny_mono h₁ (fun _ s₀ h₀' => ?_) fun _ _ h' => h')
    refine wpAny_bind (wpAny_mono h₀' (fun _ s₂ h₂ => ?_) fun _ _ h' => h')
    refine wpAny_bind (wpAny_mono h₂ (fun okb s₃ h₃ => ?_) fun _ _ h' => h')
    cases okb with
    | false => exact wpAny_pure ⟨rfl, h₃⟩
    | true => exact wpAny_bind (wpAny_bind (wpAny_mono h₃ (fun x s₄ h₄ => wpAny_bind (wpAny_mono h₄ (fun _ s₅ h₅ => wpAny_pure (wpAny_pure ⟨rfl, h₅⟩)) fun _ _ h' => h')) fun _ _ h' => h'))
structure PairComp (w : World) (A : Around) (env : Env) (scope : Scope) (cl : List (Str × Addr)) (a b : Str) (ifs : List Expr) (elt : Expr) (It : Addr) (rows : List (Str × Str)) (p : Str × Str → Bool) (f : Str × Str → Str) (s₂ : Shared) : Prop where
  tests : ∀ C s₃ m₃ row ta tb E', row ∈ rows → s₃.heap.Ns C m₃ → m₃ a = some (.str row.1 ta) → m₃ b = some (.str row.2 tb) → (∀ b o, b ≠ It → s₂.heap.get? b = some o → s₃.heap.get? b = some o) →
    wpAny (model P0 w) A (testsOf ifs (compEnvC scope cl C env)) (fun ok s₄ => ok = p row ∧ ∃ tk, s₄ = { s₃ with toks := tk }) E' s₃
  elt : ∀ C s₃ m₃ row ta tb E', row ∈ rows → s₃.heap.Ns C m₃ → m₃ a = some (.str row.1 ta) → m₃ b = some (.str row.2 tb) → (∀ b o, b ≠ It → s₂.heap.get? b = some o → s₃.heap.get? b = some o) →
    wpAny (model P0 w) A (eval elt (compEnvC scope cl C env)) (fun v s₄ => ∃ t tk, v = .str (f row) t ∧ s₄ = { s₃ with toks := tk }) E' s₃
theorem pc_block {elt iter : Expr} {a b : Str} {pa pb tp : Pos} {kk : Nat} {ifs : List Expr} {scope : Scope} {cl : List (Str × Addr)} {pos : Pos} {s₂ : Shared} {It r : Addr} {vs : List Value} {rows : List (Str × Str)} {h₀ : Heap} {p : Str × Str → Bool} {f : Str × Str → Str} {RR : Value → Addr → Result → Shared → Prop}
    (hh : A.handled = none) (hit : s₂.heap.IsListIter It r 0) (hr : s₂.heap.IsList r vs.toArray) (ra : RowsAll h₀ s₂.heap vs rows) (hsz : rows.length ≤ 1000)
    (hcell : ∀ y ∈ scope.names, y.2 ≠ .cell) (hkind : scope.kind = .function) (hxa : scope.names.lookup a = some .local) (hxb : scope.names.lookup b = some .local) (hab : ¬ a = b)
    (hq : PairComp w A env scope cl a b ifs elt It rows p f s₂)
    (hRR : ∀ D C h' tk m' zs, s₂.heap.get? D = none → s₂.heap.get? C = none → D ≠ C → h'.Ns C m' → h'.PlainList D zs.toArray → StrsAre zs ((rows.filter p).map f) → (∀ b o, b ≠ It → s₂.heap.get? b = some o → h'.get? b = some o) → RR (.ref D) C (.ok .next) { s₂ with heap := h', toks := tk }) :
    wpAny (model P0 w) A (newList []) (fun acc s₃ => wpAny (model P0 w) A (newFunctionEnv scope env.globals cl [] env.qual none .none (some env)) (fun cenv s₄ =>
      codeAny (model P0 w) A (.compStart (.ListComp elt [⟨.Tuple [.Name a pa, .Name b pb] kk tp, iter, ifs, 0⟩] scope pos) 0 (.ref It) acc { cenv with scope := relabel scope env }) (RR acc cenv.locals) s₄) E s₃) E s₂ := by
  refine wpAny_newObj_type (wpAny_newFunctionEnv hcell (by intro y hy; simp at hy) (fun h₁ hns₁ hsb₁ => ?_) hkind)
  dsimp only at hns₁ hsb₁ ⊢
  generalize hH2 : s₂.heap.push { cls := .type "list", dict := none, data := .seq ([] : List Value).toArray } = H2 at hns₁ hsb₁ ⊢
  have hC : H2.objs.size = s₂.heap.objs.size + 1 := by rw [← hH2, Heap.size_push]
  have hDC : s₂.heap.objs.size ≠ H2.objs.size := by rw [hC]; exact Nat.ne_of_lt (Nat.lt_succ_self _)
  have below : ∀ b, b < s₂.heap.objs.size → b ≠ H2.objs.size ∧ b ≠ s₂.heap.objs.size := fun b hb => ⟨by rw [hC]; exact Nat.ne_of_lt (Nat.lt_succ_of_lt hb), Nat.ne_of_lt hb⟩
  have hIlt : It < s₂.heap.objs.size := let ⟨_, e, _⟩ := hit; Heap.lt_size e
  have old : ∀ b o, s₂.heap.get? b = some o → h₁.get? b = some o := fun b o e => hsb₁.extBut b o (below b (Heap.lt_size e)).1 (Heap.get?_push_of_some _ (hH2 ▸ Heap.get?_push_of_some _ e))
  have hacc : h₁.get? s₂.heap.objs.size = some { cls := .type "list", data := .seq #[] } := hsb₁.extBut _ _ hDC (Heap.get?_push_of_some _ (hH2 ▸ Heap.get?_push_size _ rfl))
  have fresh : ∀ a, s₂.heap.objs.size ≤ a → s₂.heap.get? a = none := fun a ha => Heap.get?_none_of_le ha
  have hCI : It ≠ H2.objs.size := (below It hIlt).1
  have hDI : It ≠ s₂.heap.objs.size := (below It hIlt).2
  have hrI : r ≠ It := fun z => by
    subst z
    obtain ⟨o, e, c, _⟩ := hr
    obtain ⟨o', e', c', _⟩ := hit
    obtain rfl := Option.some.inj (e.symm.trans e')
    rw [c] at c'; exact absurd c' (by simp)
  have hvl := ra.len
  have loop : ∀ s₃ : Shared, s₃ = { s₂ with heap := h₁, toks := s₂.toks + ([] : List (Str × Value)).length } →
      codeAny (model P0 w) A (.compLoop (.ListComp elt [⟨.Tuple [.Name a pa, .Name b pb] kk tp, iter, ifs, 0⟩] scope pos) 0 (.ref It) (.ref s₂.heap.objs.size) (compEnvC scope cl H2.objs.size env))
        (RR (.ref s₂.heap.objs.size) H2.objs.size) s₃ := by
    rintro s₃ rfl
    refine pc_loop (fun k s' => ∃ i h' tk m' zs n, k = rows.length - i ∧ i ≤ rows.length ∧ s' = { s₂ with heap := h', toks := tk } ∧ h'.IsListIter It r i ∧ h'.Ns H2.objs.size m' ∧
      h'.get? s₂.heap.objs.size = some { cls := .type "list", data := .seq zs n } ∧ StrsAre zs.toList (((rows.take i).filter p).map f) ∧ (∀ b o, b ≠ It → s₂.heap.get? b = some o → h'.get? b = some o)) ?_ rows.length
      ⟨0, h₁, _, _, #[], _, rfl, Nat.zero_le _, rfl, ?_, hns₁, hacc, by rw [List.take_zero]; exact .nil, fun b o _ e => old b o e⟩
    rotate_left
    · obtain ⟨o, e, z⟩ := hit
      exact ⟨o, old _ _ e, z⟩
    rintro k s' ⟨i, h', tk, m', zs, n, rfl, hi, rfl, hit', hn', hD', hzs, hk'⟩
    have hr' : h'.IsList r vs.toArray := let ⟨o, e, z⟩ := hr; ⟨o, hk' _ _ hrI e, z⟩
    have hzl : zs.size ≤ i := by
      have := hzs.length
      rw [Array.length_toList, List.length_map] at this
      rw [this]
      refine Nat.le_trans (List.length_filter_le _ _) ?_
      exact List.length_take_le ..
    by_cases hend : i = rows.length
    · subst hend
      refine wpAny_pyNext_list_end hh hit' hr' (by simp [hvl]) fun h₂ x₂ => ?_
      refine hRR _ _ h₂ tk m' zs.toList (fresh _ (Nat.le_refl _)) (fresh _ (by rw [hC]; exact Nat.le_succ _)) hDC (hn'.extBut x₂ (Ne.symm hCI)) ⟨n, x₂ _ _ (Ne.symm hDI) (by simpa using hD')⟩ (by rw [List.take_length] at hzs; exact hzs) fun b o hb e => x₂ b o hb (hk' b o hb e)
    · have hlt : i < rows.length := by omega
      obtain ⟨ai, ta, tb, hva, hla⟩ := ra.at (List.getElem?_eq_getElem hlt)
      have hmem : rows[i] ∈ rows := List.getElem_mem hlt
      have hai : ai ≠ It := fun z => by
        subst z
        obtain ⟨o, e, c, _⟩ := hla
        obtain ⟨o', e', c', _⟩ := hit
        obtain rfl := Option.some.inj (e.symm.trans e')
        rw [c] at c'; exact absurd c' (by simp)
      refine wpAny_pyNext_list_item hit' hr' (x := .ref ai) (by simpa using hva) fun h₂ hit₂ x₂ => ?_
      refine wpAny_letOwnedTupleGo_listiter (s := { s₂ with heap := h₂, toks := _ }) hit₂ ?_
      have hla₂ : h₂.IsList ai #[.str rows[i].1 ta, .str rows[i].2 tb] := let ⟨o, e, z⟩ := hla; ⟨o, x₂.extBut _ _ hai (hk' _ _ hai e), z⟩
      refine assign_pair (s := { s₂ with heap := h₂, toks := _ }) (env := compEnvC scope cl H2.objs.size env) hh hla₂ (lookup_relabel_local hxa) (lookup_relabel_local hxb) (by simp [compEnvC, relabel, hkind]) (hn'.sameBut x₂ (Ne.symm hCI)) fun h₃ tk₃ hn₃ k₃ => ?_
      have hk₃ : ∀ b o, b ≠ It → s₂.heap.get? b = some o → h₃.get? b = some o := fun b o hb e => k₃ b o (below b (Heap.lt_size e)).1 (x₂.extBut b o hb (hk' b o hb e))
      have hD₃ : h₃.get? s₂.heap.objs.size = some { cls := .type "list", data := .seq zs n } := k₃ _ _ hDC (x₂.extBut _ _ (Ne.symm hDI) hD')
      have hit₃ : h₃.IsListIter It r (i + 1) := let ⟨o, e, z⟩ := hit₂; ⟨o, k₃ _ _ hCI e, z⟩
      have htake : rows.take (i + 1) = rows.take i ++ [rows[i]] := by rw [List.take_add_one, List.getElem?_eq_getElem hlt]; rfl
      refine wpAny_mono (hq.tests _ { s₂ with heap := h₃, toks := tk₃ } _ rows[i] ta tb _ hmem hn₃ (by simp [hab]) (by simp) hk₃) (fun ok s₄ h₄ => ?_) fun _ _ e => e
      obtain ⟨rfl, tk₄, rfl⟩ := h₄
      cases hp : p rows[i] with
      | false =>
        simp only [Bool.false_eq_true, if_false]
        refine ⟨rows.length - (i + 1), by omega, i + 1, h₃, tk₄, _, zs, n, rfl, hlt, rfl, hit₃, hn₃, hD₃, ?_, hk₃⟩
        rw [htake, List.filter_append, List.map_append]
        simpa [hp] using hzs
      | true =>
        simp only [if_true]
        refine wpAny_mono (hq.elt _ { s₂ with heap := h₃, toks := tk₄ } _ rows[i] ta tb _ hmem hn₃ (by simp [hab]) (by simp) hk₃) (fun v s₅ h₅ => ?_) fun _ _ e => e
        obtain ⟨t₅, tk₅, rfl, rfl⟩ := h₅
        refine append_at (s := { s₂ with heap := h₃, toks := tk₅ }) (hsz := by rw [sizeLine_eq]; omega) hD₃ fun h₆ s₆ hD₆ => ?_
        refine ⟨rows.length - (i + 1), by omega, i + 1, h₆, _, _, zs.push (.str (f rows[i]) t₅), n + 1, rfl, hlt, rfl, ?_, hn₃.sameBut s₆ (Ne.symm hDC), hD₆, ?_, ?_⟩
        · obtain ⟨o, e, z⟩ := hit₃
          exact ⟨o, s₆.extBut _ _ hDI e, z⟩
        · rw [htake, List.filter_append, List.map_append]
          have : List.map f (List.filter p [rows[i]]) = [f rows[i]] := by simp [hp]
          rw [this, Array.toList_push]
          exact strsAre_push hzs _ _
        · exact fun b o hb e => s₆.extBut b o (below b (Heap.lt_size e)).2 (hk₃ b o hb e)
  refine codeAny_compStart_list (loop _ rfl) ?_
  exact (Walks.list hh It r hrI vs.toArray).self 0 _ _ _ ⟨let ⟨o, e, z⟩ := hit; ⟨o, old _ _ e, z⟩, let ⟨o, e, z⟩ := hr; ⟨o, old _ _ e, z⟩⟩ (loop _ rfl)
end
end
section
open PySem PySem.W PyProof.Rows PySem.Calls PySem.Builtin PySem.Builtin.Str PySem.StrLaws
set_option maxRecDepth 100000
section
variable {w : World} {A : Around} {E : Value → Shared → Prop} {s : Shared} {env : Env}
theorem pc_ListComp {elt iter : Expr} {a b : Str} {pa pb tp : Pos} {kk : Nat} {ifs : List Expr} {scope : Scope} {cl : List (Str × Addr)} {pos : Pos} {Q : Value → Shared → Prop} (p : Str × Str → Bool) (f : Str × Str → Str)
    (hclos : closureFor scope env = pure cl) (hcell : ∀ y ∈ scope.names, y.2 ≠ .cell) (hkind : scope.kind = .function)
    (hnames : ∀ y ∈ scope.names, y.2 = .local → scope.names.lookup y.1 = some .local) (hxa : scope.names.lookup a = some .local) (hxb : scope.names.lookup b = some .local) (hab : ¬ a = b) (hh : A.handled = none)
    (h : wpAny (model P0 w) A (eval iter env) (fun xv s₁ => ∃ r vs rows h₀, xv = .ref r ∧ s₁.heap.IsList r vs.toArray ∧ RowsAll h₀ s₁.heap vs rows ∧ rows.length ≤ 1000 ∧
      ∀ o It, It = s₁.heap.objs.size → PairComp w A env scope cl a b ifs elt It rows p f { s₁ with heap := s₁.heap.push o } ∧
      (∀ D h' tk zs, s₁.heap.get? D = none → h'.PlainList D zs.toArray → StrsAre zs ((rows.filter p).map f) → (∀ b o, s₁.heap.get? b = some o → h'.get? b = some o) → Q (.ref D) { s₁ with heap := h', toks := tk })) E s)
    (hs : ∀ x, foldedSetIterable iter env x = pure x := by intro _; rfl) :
    wpAny (model P0 w) A (eval (.ListComp elt [⟨.Tuple [.Name a pa, .Name b pb] kk tp, iter, ifs, 0⟩] scope pos) env) Q E s := by
  rw [eval_ListComp]
  refine wpAny_comprehension_free (use := none) rfl hs hclos hkind hnames (wpAny_mono h (fun xv s₁ h₁ => ?_) fun _ _ e => e)
  obtain ⟨r, vs, rows, h₀, rfl, hr, ra, hsz, H⟩ := h₁
  refine wpAny_pyIter_list hr ?_
  obtain ⟨hq, hQ⟩ := H { cls := .type "list_iterator", data := .fields #[.ref r, .int 0 0] } _ rfl
  have up : ∀ b o, s₁.heap.get? b = some o → (s₁.heap.push { cls := .type "list_iterator", data := .fields #[.ref r, .int 0 0] }).get? b = some o := fun b o e => Heap.get?_push_of_some _ e
  refine pc_block (RR := fun acc C => compPost (model P0 w) A E none Q acc C) hh ⟨_, Heap.get?_push_size _ rfl, rfl, rfl⟩ (hr.push _) (ra.kept fun a x t y u _ ⟨o, e, z⟩ => ⟨o, up _ _ e, z⟩) hsz hcell hkind hxa hxb hab hq ?_
  intro D C h' tk m' zs hD hC hDC hn hpl hst hk
  refine ⟨m', hn, fun h'' hs'' => ?_⟩
  have hI : ∀ b o, s₁.heap.get? b = some o → b ≠ s₁.heap.objs.size := fun b o e => Nat.ne_of_lt (Heap.lt_size e)
  refine hQ D h'' tk zs ?_ (let ⟨n, e⟩ := hpl; ⟨n, hs''.extBut _ _ hDC e⟩) hst fun b o e => hs''.extBut b o (fun z => ?_) (hk b o (hI b o e) (up b o e))
  · cases e : s₁.heap.get? D with
    | none => rfl
    | some o => exact absurd (hD.symm.trans (up _ _ e)) nofun
  · have e2 := up _ _ e
    rw [z] at e2
    exact absurd (hC.symm.trans e2) nofun
theorem pc_Assign {elt iter : Expr} {a b y : Str} {pa pb tp py : Pos} {kk : Nat} {ifs : List Expr} {scope : Scope} {cl : List (Str × Addr)} {pos spos : Pos} {Q : Flow → Shared → Prop} (p : Str × Str → Bool) (f : Str × Str → Str)
    (hsw : swapsWith (.ListComp elt [⟨.Tuple [.Name a pa, .Name b pb] kk tp, iter, ifs, 0⟩] scope pos) (some (.Name y py)) spos.line env = pure true)
    (hclos : closureFor scope env = pure cl) (hcell : ∀ y ∈ scope.names, y.2 ≠ .cell) (hkind : scope.kind = .function)
    (hnames : ∀ y ∈ scope.names, y.2 = .local → scope.names.lookup y.1 = some .local) (hxa : scope.names.lookup a = some .local) (hxb : scope.names.lookup b = some .local) (hab : ¬ a = b)
    (hy : env.kindOf y = some .local) (hp : (env.scope.kind == .class || (env.scope.kind == .module && env.locals != env.globals)) = false) (hh : A.handled = none)
    (h : wpAny (model P0 w) A (eval iter env) (fun xv s₁ => ∃ r vs rows h₀ m, xv = .ref r ∧ s₁.heap.Ns env.locals m ∧ s₁.heap.IsList r vs.toArray ∧ RowsAll h₀ s₁.heap vs rows ∧ rows.length ≤ 1000 ∧
      ∀ o It, It = s₁.heap.objs.size → PairComp w A env scope cl a b ifs elt It rows p f { s₁ with heap := s₁.heap.push o } ∧
      (∀ D h' tk zs, s₁.heap.get? D = none → h'.PlainList D zs.toArray → StrsAre zs ((rows.filter p).map f) → h'.Ns env.locals (fun z => if z = y then some (.ref D) else m z) → (∀ b o, b ≠ env.locals → s₁.heap.get? b = some o → h'.get? b = some o) → Q .next { s₁ with heap := h', toks := tk })) E s)
    (hs : ∀ x, foldedSetIterable iter env x = pure x := by intro _; rfl) :
    wpAny (model P0 w) A (exec (.Assign [.Name y py] (.ListComp elt [⟨.Tuple [.Name a pa, .Name b pb] kk tp, iter, ifs, 0⟩] scope pos) spos) env) Q E s := by
  rw [exec_Assign_Name_used _ _ _ _ hsw]
  refine wpAny_bind (wpAny_standAt (wpAny_bind ?_))
  show wpAny _ A (do let _ ← comprehension (.ListComp elt [⟨.Tuple [.Name a pa, .Name b pb] kk tp, iter, ifs, 0⟩] scope pos) scope env _ (newList []) false (eval iter env) (some (assign (.Name y py) env))) _ _ s
  refine wpAny_bind (wpAny_mono (wpAny_comprehension_free (use := some (assign (.Name y py) env)) (Q := fun _ s' => Q .next s') rfl hs hclos hkind hnames
    (wpAny_mono h (fun xv s₁ h₁ => ?_) fun _ _ e => e)) (fun _ s' hq => wpAny_pure (wpAny_pure hq)) fun _ _ e => e)
  obtain ⟨r, vs, rows, h₀, m, rfl, hn₁, hr, ra, hsz, H⟩ := h₁
  refine wpAny_pyIter_list hr ?_
  obtain ⟨hq, hQ⟩ := H { cls := .type "list_iterator", data := .fields #[.ref r, .int 0 0] } _ rfl
  have up : ∀ b o, s₁.heap.get? b = some o → (s₁.heap.push { cls := .type "list_iterator", data := .fields #[.ref r, .int 0 0] }).get? b = some o := fun b o e => Heap.get?_push_of_some _ e
  have hI : ∀ b o, s₁.heap.get? b = some o → b ≠ s₁.heap.objs.size := fun b o e => Nat.ne_of_lt (Heap.lt_size e)
  refine pc_block (RR := fun acc C => compPost (model P0 w) A E (some (assign (.Name y py) env)) (fun _ s' => Q .next s') acc C) hh ⟨_, Heap.get?_push_size _ rfl, rfl, rfl⟩ (hr.push _) (ra.kept fun a x t y u _ ⟨o, e, z⟩ => ⟨o, up _ _ e, z⟩) hsz hcell hkind hxa hxb hab hq ?_
  intro D C h' tk m' zs hD hC hDC hn hpl hst hk
  have hD1 : s₁.heap.get? D = none := by
    cases e : s₁.heap.get? D with
    | none => rfl
    | some o => exact absurd (hD.symm.trans (up _ _ e)) nofun
  have hLC : env.locals ≠ C := by rintro rfl; obtain ⟨o, _, _, ho, _⟩ := hn₁; exact absurd (hC.symm.trans (up _ _ ho)) nofun
  have hLD : env.locals ≠ D := by rintro rfl; obtain ⟨o, _, _, ho, _⟩ := hn₁; rw [hD1] at ho; cases ho
  show wpAny _ A (assign (.Name y py) env (.ref D)) _ _ _
  refine wpAny_assign_Name (wpAny_storeName_local (m := m) hy (hn₁.at' fun o e => hk _ o (hI _ _ e) (up _ _ e)) (fun h₂ hn₂ hs₂ => ?_) hp)
  refine ⟨m', hn.sameBut hs₂ (Ne.symm hLC), fun h₃ hs₃ => ?_⟩
  refine hQ D h₃ _ zs hD1 (let ⟨n, e⟩ := hpl; ⟨n, hs₃.extBut _ _ hDC (hs₂.extBut _ _ (Ne.symm hLD) e)⟩) hst (hn₂.sameBut hs₃ hLC) fun b o hbL e => ?_
  exact hs₃.extBut b o (fun z => by have e2 := up _ _ e; rw [z] at e2; exact absurd (hC.symm.trans e2) nofun) (hs₂.extBut b o hbL (hk b o (hI b o e) (up b o e)))
end
end
section
open PySem PySem.W PyProof.Rows PySem.Calls PySem.Builtin PySem.Builtin.Str PySem.StrLaws
set_option maxRecDepth 100000
/-- a generator that is drawn from while the list S grows -/
structure WalksG (w : World) (A : Around) (I S : Addr) (n : Nat) (P : Nat → Value → Prop) (St : Nat → Shared → Prop) (Fin : Shared → Prop) : Prop where
  frame : ∀ i (s : Shared) h' tk, St i s → (∀ b o, b ≠ S → s.heap.get? b = some o → h'.get? b = some o) → (∃ o, h'.get? S = some o) → St i { s with heap := h', toks := tk }
  item : ∀ i (s : Shared) (Q : Option Value → Shared → Prop) (E : Value → Shared → Prop), i < n → St i s →
    (∀ v s', P i v → St (i + 1) s' → (∀ o, s.heap.get? S = some o → s'.heap.get? S = some o) → Q (some v) s') → wpAny (model P0 w) A (pyNext (.ref I)) Q E s
  done : ∀ (s : Shared) (Q : Option Value → Shared → Prop) (E : Value → Shared → Prop), St n s → (∀ s', Fin s' → (∀ o, s.heap.get? S = some o → s'.heap.get? S = some o) → Q none s') → wpAny (model P0 w) A (pyNext (.ref I)) Q E s
  gen : ∀ i s, St i s → ∃ g, s.heap.IsGen I g
section
variable {w : World} {A : Around} {s : Shared} {R : Result → Shared → Prop}
variable {I S : Addr} {n : Nat} {P : Nat → Value → Prop} {St : Nat → Shared → Prop} {Fin : Shared → Prop}
theorem extend_loopG (W : WalksG w A.in1 I S n P St Fin) (hn : n ≤ sizeLine) (res : Value) :
    ∀ (k i : Nat) (s : Shared) (acc : Array Value) (c : Nat), n - i = k → i ≤ n → St i s → s.heap.get? S = some { cls := .type "list", dict := none, data := .seq acc c, slots := #[] } → ItemsOf P acc i →
    (∀ s' acc' c', Fin s' → s'.heap.get? S = some { cls := .type "list", dict := none, data := .seq acc' c', slots := #[] } → ItemsOf P acc' n → R (.ok (.ret res)) s') →
    codeAny (model P0 w) A (.builtin "list.extend.loop" ⟨[.ref S, .ref I, res], []⟩) R s := by
  intro k
  induction k with
  | zero =>
    intro i s acc c hk hi hst hS hacc hR
    have hin : i = n := by omega
    subst hin
    refine codeAny_builtin F.entry_extend_loop ?_
    rw [Around.under_plainId F.plain_extend_loop _]
    show wpAny _ A.in1 (pyNext (.ref I) >>= _) _ _ s
    refine wpAny_bind (W.done s _ _ hst fun s' hf hm => ?_)
    exact wpAny_pure (hR s' acc c hf (hm _ hS) hacc)
  | succ k ih =>
    intro i s acc c hk hi hst hS hacc hR
    have hlt : i < n := by omega
    refine codeAny_builtin F.entry_extend_loop ?_
    rw [Around.under_plainId F.plain_extend_loop _]
    show wpAny _ A.in1 (pyNext (.ref I) >>= _) _ _ s
    refine wpAny_bind (W.item i s _ _ hlt hst fun v s' hP hst' hm => ?_)
    have hS' := hm _ hS
    show wpAny _ A.in1 (updateSeq S (·.push v) >>= _) _ _ _
    refine wpAny_bind ?_
    refine wpAny_updateSeq hS' rfl (wpAny_pure ⟨plainId_quiet F.plain_extend_loop _, ih (i + 1) _ (acc.push v) _ (by omega) hlt (W.frame _ s' _ s'.toks hst' (fun b o hb e => ?_) ⟨_, Heap.get?_update_self _ hS' rfl⟩) (Heap.get?_update_self _ hS' rfl) (hacc.push hP) fun s'' acc' c' hf'' hS'' hacc' => ?_⟩)
      (by rw [hacc.1]; omega) (by show (acc.push v).size ≤ sizeLine + 1; rw [Array.size_push, hacc.1]; omega)
    · exact (Heap.get?_update_other _ _ (Ne.symm hb)).trans e
    · exact hR s'' acc' c' hf'' hS'' hacc'
theorem extend_genG (W : WalksG w A.in1 I S n P St Fin) (res : Value) (c₀ : Nat) (hst : St 0 s) (hSI : S ≠ I)
    (hS : s.heap.get? S = some { cls := .type "list", data := .seq #[] c₀ })
    (hR : ∀ s' acc' c', Fin s' → s'.heap.get? S = some { cls := .type "list", dict := none, data := .seq acc' c', slots := #[] } → ItemsOf P acc' n → R (.ok (.ret res)) s') (hn : n ≤ sizeLine) :
    wpAny (model P0 w) A.in1 (Builtin.List.listExtendWith (.ref S) (.ref I) res)
      (fun fin s' => match fin with | .done f => R (.ok f) s' | .again c' => c'.quiet = true ∧ codeAny (model P0 w) A c' R s') (fun e s' => R (.error e) s') s := by
  obtain ⟨g, hg⟩ := W.gen 0 s hst
  unfold Builtin.List.listExtendWith
  refine wpAny_bind (wpAny_typeOf hg.typeIs ?_)
  have h1 : Builtin.List.listSameRef (.ref S) (.ref I) = false := by simp [Builtin.List.listSameRef, hSI]
  have h2 : (Value.type "generator" == Value.type "list") = false := by decide
  have h3 : (Value.type "generator" == Value.type "tuple") = false := by decide
  simp only [h1, h2, h3, Bool.or_false, Bool.false_eq_true, if_false]
  refine wpAny_bind (wpAny_pyIter_gen hg ?_)
  refine wpAny_bind (wpAny_holding ?_)
  unfold Builtin.List.listLengthHint
  refine wpAny_bind (wpAny_specialOf hg.typeIs F.gen_no_len ?_)
  show wpAny _ A.in1 (specialOf (Value.ref I) (Str.ofString "__length_hint__") >>= _) _ _ _
  refine wpAny_bind (wpAny_specialOf hg.typeIs F.gen_no_hint ?_)
  refine wpAny_pure ?_
  show wpAny _ A.in1 (rule "list.extend.makes-room" >>= fun _ => Builtin.List.listTouch (.ref S) >>= fun _ =>
    again (.builtin "list.extend.loop" ⟨[.ref S, .ref I, res], []⟩)) _ _ _
  refine wpAny_bind (wpAny_rule ?_)
  refine wpAny_bind ?_
  show wpAny _ A.in1 (updateSeq S (·.push .none) >>= fun _ => updateSeq S (·.pop)) _ _ _
  refine wpAny_bind (wpAny_updateSeq hS rfl ?_)
  have hS₂ := Heap.get?_update_self (Obj.mapSeq (·.push Value.none)) hS rfl
  refine wpAny_updateSeq (hz := by seq_fits) hS₂ rfl ?_
  have hS₃ := Heap.get?_update_self (Obj.mapSeq (·.pop)) hS₂ rfl
  refine wpAny_pure ⟨plainId_quiet F.plain_extend_loop _, extend_loopG W hn _ n 0 _ _ _ rfl (Nat.zero_le _)
    (W.frame 0 s _ s.toks hst (fun b o hb e => (Heap.get?_update_other _ _ (Ne.symm hb)).trans ((Heap.get?_update_other _ _ (Ne.symm hb)).trans e)) ⟨_, hS₃⟩) hS₃ (ItemsOf.nil P) hR⟩
theorem list_init_genG (W : WalksG w A.in1 I S n P St Fin) (hst : St 0 s) (hSI : S ≠ I)
    (hS : s.heap.get? S = some { cls := .type "list", data := .seq #[] })
    (hR : ∀ s' acc' c', Fin s' → s'.heap.get? S = some { cls := .type "list", dict := none, data := .seq acc' c', slots := #[] } → ItemsOf P acc' n → R (.ok (.ret .none)) s') (hn : n ≤ sizeLine) :
    wpAny (model P0 w) A.in1 (Builtin.«list.__init__» ⟨[.ref S, .ref I], []⟩)
      (fun fin s' => match fin with | .done f => R (.ok f) s' | .again c' => c'.quiet = true ∧ codeAny (model P0 w) A c' R s') (fun e s' => R (.error e) s') s := by
  show wpAny _ A.in1 (do let old ← Builtin.List.listItems (.ref S); Builtin.List.listUpdate (.ref S) (fun _ => #[]); letGo old.toList.reverse; Builtin.List.listExtendWith (.ref S) (.ref I) .none) _ _ s
  refine wpAny_bind ?_
  unfold Builtin.List.listItems
  refine wpAny_bind (wpAny_seqItems hS rfl (wpAny_pure ?_))
  show wpAny _ A.in1 (updateSeq S (fun _ => #[]) >>= fun _ => letGo (#[] : Array Value).toList.reverse >>= fun _ => Builtin.List.listExtendWith (.ref S) (.ref I) .none) _ _ s
  refine wpAny_bind (wpAny_updateSeq hS rfl ?_)
  have hS₂ := Heap.get?_update_self (Obj.mapSeq (fun _ => (#[] : Array Value))) hS rfl
  refine wpAny_bind (wpAny_letGo ?_)
  exact extend_genG W .none _ (W.frame 0 s _ s.toks hst (fun b o hb e => (Heap.get?_update_other _ _ (Ne.symm hb)).trans e) ⟨_, hS₂⟩) hSI hS₂ hR hn
end
section
variable {w : World} {A : Around} {E : Value → Shared → Prop} {s : Shared}
variable {I : Addr} {n : Nat} {P : Nat → Value → Prop} {St : Nat → Shared → Prop} {Fin : Shared → Prop}
theorem list_gen {Q : Value → Shared → Prop} (W : WalksG w A.in1.in1 I s.heap.objs.size n P St Fin) (hst : St 0 { s with heap := s.heap.push { cls := .type "list", data := .seq #[] } }) (hI : I < s.heap.objs.size)
    (hQ : ∀ s' acc' c', Fin s' → s'.heap.get? s.heap.objs.size = some { cls := .type "list", dict := none, data := .seq acc' c', slots := #[] } → ItemsOf P acc' n → Q (.ref s.heap.objs.size) s') (hn : n ≤ sizeLine) :
    wpAny (model P0 w) A (call (.type "list") [.ref I]) Q E s := by
  refine callType_codes (Q₁ := fun obj s₁ => obj = .ref s.heap.objs.size ∧ s₁ = { s with heap := s.heap.push { cls := .type "list", data := .seq #[] } }) F.called_list (F.typeCall_list_1 _) F.entry_list_init
    (code_list_new _ ⟨rfl, rfl⟩) fun obj s₁ h₁ => ?_
  obtain ⟨rfl, rfl⟩ := h₁
  have hS : (s.heap.push { cls := .type "list", data := .seq #[] }).get? s.heap.objs.size = some { cls := .type "list", data := .seq #[] } := Heap.get?_push_size _ rfl
  refine ⟨⟨_, hS, rfl⟩, F.args_list_init_2 _ _, list_init_genG W hst (Nat.ne_of_gt hI) hS (fun s' acc' c' hm hS' hacc => ?_) hn⟩
  exact ⟨rfl, hQ s' acc' c' hm hS' hacc⟩
end
end
section
open PySem PySem.W PyProof.Rows PySem.Calls PySem.Builtin PySem.Builtin.Str PySem.StrLaws
set_option maxRecDepth 100000
def rFor : Stmt := (fnBody (stmtAt 13)).getD 2 (.Pass ⟨0, 0, 0, 0⟩)
def forTgt : Stmt → Expr
  | .For t .. => t
  | _ => .Constant .none 0 ⟨0, 0, 0, 0⟩
abbrev evR (L : Addr) : Env := ev 13 L 100 99
abbrev bl2 : Str := Str.ofString "  "
def pOf (tag x : Str) : Bool := bl2 == Txt.slice x none (some 2) || tag == Txt.slice x none (some 2)
def fOf (x : Str) : Str := Txt.slice x (some 2) none
def Rel (h₀ : Heap) (S I : Addr) (g : Nat) (s₀ s : Shared) : Prop :=
  ∃ h' tk, s = { s₀ with heap := h', toks := tk } ∧ (∀ b o, h₀.get? b = some o → h'.get? b = some o) ∧ (∀ o, s₀.heap.get? S = some o → h'.get? S = some o) ∧ h'.IsGen I g
theorem Rel.step {h₀ : Heap} {S I : Addr} {g : Nat} {s₀ s : Shared} {h' : Heap} {tk : Nat} (x : Rel h₀ S I g s₀ s) (k0 : ∀ b o, h₀.get? b = some o → s.heap.get? b = some o → h'.get? b = some o)
    (kS : ∀ o, s.heap.get? S = some o → h'.get? S = some o) (kI : ∀ o, s.heap.get? I = some o → h'.get? I = some o) : Rel h₀ S I g s₀ { s with heap := h', toks := tk } := by
  obtain ⟨h₁, tk₁, rfl, a, b, c⟩ := x
  exact ⟨h', tk, rfl, fun b o e => k0 b o e (a b o e), fun o e => kS o (b o e), let ⟨o, nm, qn, ho, r⟩ := c; ⟨o, nm, qn, kI _ ho, r⟩⟩
def protoR (h₀ : Heap) (S I : Addr) (g : Nat) (out : List Str) : Protocol := fun m s₀ v s kap =>
  (∃ y t, out[out.length - 1 - m]? = some y ∧ v = .str y t) ∧ Rel h₀ S I g s₀ s ∧ ∀ s'' : Shared, (∀ b o, b ≠ S → s.heap.get? b = some o → s''.heap.get? b = some o) → Rel h₀ S I g s'' s'' → kap (.send .none) s''
def endR (h₀ : Heap) (S I : Addr) (g : Nat) : GenEnd := fun n s₀ r s₁ => r = .ok (.ret .none) ∧ (n = 0 ∧ Rel h₀ S I g s₀ s₁)
theorem drop_step {l : List Str} {i : Nat} (h : i < l.length) (p : Str → Bool) : ((l.drop i).filter p).length = (if p l[i] = true then 1 else 0) + ((l.drop (i + 1)).filter p).length := by
  rw [List.drop_eq_getElem_cons h, List.filter_cons]
  split <;> simp <;> omega
theorem out_here {l : List Str} {i : Nat} (h : i < l.length) {p : Str → Bool} (f : Str → Str) (hp : p l[i] = true) :
    ((l.filter p).map f)[((l.filter p).map f).length - 1 - ((l.drop (i + 1)).filter p).length]? = some (f l[i]) := by
  have e : l.filter p = (l.take i).filter p ++ l[i] :: (l.drop (i + 1)).filter p := by
    conv => lhs; rw [← List.take_append_drop i l, List.drop_eq_getElem_cons h, List.filter_append, List.filter_cons, if_pos hp]
  rw [e, List.map_append, List.map_cons, List.length_append, List.length_cons, List.length_map, List.length_map]
  have : ((l.take i).filter p).length + (((l.drop (i + 1)).filter p).length + 1) - 1 - ((l.drop (i + 1)).filter p).length = ((l.take i).filter p).length := by omega
  rw [this, List.getElem?_append_right (by simp)]
  simp
section
variable {w : World} {A : Around}
theorem in_pre {A : Around} {E : Value → Shared → Prop} {s : Shared} {T : Addr} {tag x : Str} {t1 t2 t : Tok} {Q : Value → Shared → Prop} (ht : s.heap.IsTuple T #[.str bl2 t1, .str tag t2])
    (h : Q (.bool (bl2 == x || tag == x)) s) : wpAny (model P0 w) A (compareOp .In (.str x t) (.ref T)) Q E s := by
  refine SeqAt.in_tupleAt (fun v => match v with | .str a _ => a == x | _ => false) ht (fun y hy => ?_) ?_
  · have : y = .str bl2 t1 ∨ y = .str tag t2 := by simpa using hy
    rcases this with rfl | rfl
    · exact (eqGives_str _ _ _ _).at _ _
    · exact (eqGives_str _ _ _ _).at _ _
  · have : (#[Value.str bl2 t1, .str tag t2] : Array Value).any (fun v => match v with | .str a _ => a == x | _ => false) = (bl2 == x || tag == x) := by simp
    rw [this]; exact h
set_option maxHeartbeats 4000000 in
theorem seg_restore {h₀ : Heap} {S I L It T dl : Addr} {g : Nat} {lines : List Str} {vs : List Value} {tag : Str} {t1 t2 : Tok} {fs : List Frame} (hi : StrsAre vs lines) (hll : ∀ x ∈ lines, x.length ≤ 1000)
    (hfs : splitAtGen fs = none) (hfg : fs.any Frame.guarded = false) (hho : (A.over (.forLoop (forTgt rFor) (.ref It) (forBody rFor) [] (evR L)) fs).handled = none)
    (hItS : It ≠ S) (hLS : L ≠ S) (hTS : T ≠ S) (hdS : dl ≠ S) (hIL : I ≠ L) (hII : I ≠ It) (hItL : It ≠ L) (hTL : T ≠ L) (hTI : T ≠ It) (hdL : dl ≠ L) (hdI : dl ≠ It) (h0L : h₀.get? L = none) (h0I : h₀.get? It = none)
    (hfin : ∀ c s₀ s, Rel h₀ S I g s₀ s → Seg (model P0 w) A (endR h₀ S I g) (protoR h₀ S I g ((lines.filter (pOf tag)).map fOf)) 0 s₀ c (leafOf (.ok .next)) fs s) :
    ∀ (k i : Nat) (s₀ s : Shared) (m : Str → Option Value), lines.length - i = k → i ≤ lines.length → s.heap.IsListIter It dl i → s.heap.IsList dl vs.toArray → s.heap.Ns L m → m "prefixes" = some (.ref T) → s.heap.IsTuple T #[.str bl2 t1, .str tag t2] → Rel h₀ S I g s₀ s →
      Seg (model P0 w) A (endR h₀ S I g) (protoR h₀ S I g ((lines.filter (pOf tag)).map fOf)) ((lines.drop i).filter (pOf tag)).length s₀ (.forLoop (forTgt rFor) (.ref It) (forBody rFor) [] (evR L))
        ((model P0 w).den (.forLoop (forTgt rFor) (.ref It) (forBody rFor) [] (evR L))) fs s := by
  have hvl := hi.length
  intro k
  induction k with
  | zero =>
    intro i s₀ s m hk hi1 it dlL ns hm hT hR
    obtain rfl : i = lines.length := by omega
    rw [List.drop_length]
    show Seg _ A _ _ 0 s₀ _ ((forTurn (forTgt rFor) (.ref It) (forBody rFor) [] (evR L)).onRaise _) fs s
    unfold forTurn
    rw [Sem.onRaise_eq_wrap]
    refine seg_bind_wrap (wpAny_standAt ?_)
    refine seg_bind_wrap (wpAny_onRaise (wpAny_pyNext_list_end hho it dlL (by simp [hvl]) fun h₁ x₁ => ?_))
    refine seg_again rfl ?_
    show Seg _ A _ _ 0 s₀ _ (do return Fin.done (← (execs [] (evR L)).onRaise _)) fs _
    refine seg_bind (wpAny_onRaise (wpAny_execs_nil ?_))
    exact hfin _ _ _ (hR.step (fun b o e0 e => x₁ b o (fun z => by rw [z, h0I] at e0; cases e0) e) (fun o e => x₁ _ o (Ne.symm hItS) e) fun o e => x₁ _ o hII e)
  | succ k ih =>
    intro i s₀ s m hk hi1 it dlL ns hm hT hR
    have hlt : i < lines.length := by omega
    obtain ⟨tl, hat⟩ := strsAre_at hi (List.getElem?_eq_getElem hlt)
    show Seg _ A _ _ _ s₀ _ ((forTurn (forTgt rFor) (.ref It) (forBody rFor) [] (evR L)).onRaise _) fs s
    unfold forTurn
    rw [Sem.onRaise_eq_wrap]
    refine seg_bind_wrap (wpAny_standAt ?_)
    refine seg_bind_wrap (wpAny_onRaise (wpAny_pyNext_list_item it dlL (x := .str lines[i] tl) (by simpa using hat) fun h₁ it₁ x₁ => ?_))
    refine seg_bind_wrap (wpAny_of_eq (rfl : letOwnedTupleGo (forTgt rFor) (.ref It) _ = pure ()) ?_)
    refine seg_bind_wrap ?_
    have ns₁ : h₁.Ns L m := ns.sameBut x₁ (Ne.symm hItL)
    refine wpAny_assign_Name (wpAny_storeName_local (s := { s with heap := h₁, toks := _ }) (env := evR L) rfl ns₁ (fun h₂ ns₂ x₂ => ?_) rfl)
    rw [Sem.bind_eq_wrap', Sem.wrap_wrap]
    refine seg_execs_cons ?_
    rw [arm_exec_If]
    refine seg_bind_wrap (wpAny_standAt ?_)
    refine seg_bind_wrap ?_
    refine wpAny_isTrue_Compare1 ?_
    refine slice_str ?_
    refine nm ns₂ rfl ?_
    refine wpAny_evalPart_none ?_
    refine wpAny_evalPart_some ?_
    refine wpAny_Constant_int ?_
    have hl1 := hll _ (List.getElem_mem hlt)
    refine ⟨lines[i], tl, none, some (_, _), rfl, rfl, rfl, by rw [sizeLine_eq]; omega, fun t' tk' => ?_⟩
    generalize hh₃ : h₂.push _ = h₃
    have k₃ : ∀ b o, h₂.get? b = some o → h₃.get? b = some o := fun b o e => by rw [← hh₃]; exact Heap.get?_push_of_some _ e
    clear hh₃
    have k03 : ∀ b o, b ≠ L → b ≠ It → s.heap.get? b = some o → h₃.get? b = some o := fun b o h1 h2 e => k₃ b o ((x₂.2 b h1).trans ((x₁.2 b h2).trans e))
    have ns₃ := ns₂.keeps k₃
    have hT₃ : h₃.IsTuple T #[.str bl2 t1, .str tag t2] := let ⟨o, e, z⟩ := hT; ⟨o, k03 _ _ hTL hTI e, z⟩
    have dl₃ : h₃.IsList dl vs.toArray := let ⟨o, e, z⟩ := dlL; ⟨o, k03 _ _ hdL hdI e, z⟩
    have it₃ : h₃.IsListIter It dl (i + 1) := let ⟨o, e, z⟩ := it₁; ⟨o, k₃ _ _ ((x₂.2 _ hItL).trans e), z⟩
    have hR₃ : ∀ tk, Rel h₀ S I g s₀ { s with heap := h₃, toks := tk } := fun tk => hR.step (fun b o e0 e => k03 b o (fun z => by rw [z, h0L] at e0; cases e0) (fun z => by rw [z, h0I] at e0; cases e0) e) (fun o e => k03 _ o (Ne.symm hLS) (Ne.symm hItS) e) fun o e => k03 _ o hIL hII e
    refine nm (s := { s with heap := h₃, toks := _ }) (env := evR L) ns₃ hm ?_
    refine in_pre (s := { s with heap := h₃, toks := _ }) hT₃ ?_
    refine wpAny_truthy_bool ?_
    rw [drop_step hlt]
    show Seg _ A _ _ _ s₀ _ (Sem.wrap _ _ _ _ (if pOf tag lines[i] = true then _ else _)) fs _
    cases hp : pOf tag lines[i] with
    | false =>
      simp only [Bool.false_eq_true, if_false, Nat.zero_add]
      refine seg_execs_nil ?_
      refine seg_execs_nil ?_
      refine seg_again rfl ?_
      exact ih (i + 1) s₀ _ _ (by omega) hlt it₃ dl₃ ns₃ hm hT₃ (hR₃ _)
    | true =>
      simp only [if_true]
      rw [Nat.add_comm]
      refine seg_execs_cons ?_
      refine seg_Expr_Yield hfs rfl hfg ?_
      refine slice_str ?_
      refine nm (s := { s with heap := h₃, toks := _ }) (env := evR L) ns₃ rfl ?_
      refine wpAny_evalPart_some ?_
      refine wpAny_Constant_int ?_
      refine wpAny_evalPart_none ?_
      refine ⟨lines[i], tl, some (_, _), none, rfl, rfl, rfl, by rw [sizeLine_eq]; omega, fun t₄ tk₄ => ?_⟩
      generalize hh₄ : h₃.push _ = h₄
      have k₄ : ∀ b o, h₃.get? b = some o → h₄.get? b = some o := fun b o e => by rw [← hh₄]; exact Heap.get?_push_of_some _ e
      clear hh₄
      intro kap hkap
      refine ⟨⟨fOf lines[i], t₄, out_here hlt fOf hp, rfl⟩, ?_, fun s'' ag rr => hkap .none s'' ?_⟩
      · exact (hR₃ tk').step (fun b o _ e => k₄ b o e) (fun o e => k₄ _ o e) fun o e => k₄ _ o e
      · refine seg_execs_nil ?_
        refine seg_execs_nil ?_
        refine seg_again rfl ?_
        have up : ∀ b o, b ≠ S → h₃.get? b = some o → s''.heap.get? b = some o := fun b o hb e => ag b o hb (k₄ b o e)
        exact ih (i + 1) s'' s'' _ (by omega) hlt (let ⟨o, e, z⟩ := it₃; ⟨o, up _ _ hItS e, z⟩) (let ⟨o, e, z⟩ := dl₃; ⟨o, up _ _ hdS e, z⟩) (ns₃.at' fun o e => up _ o hLS e) hm (let ⟨o, e, z⟩ := hT₃; ⟨o, up _ _ hTS e, z⟩) rr
end
end
section
open PySem PySem.W PyProof.Rows PySem.Calls PySem.Builtin PySem.Builtin.Str PySem.StrLaws PySem.Spec PyProof.V
set_option maxRecDepth 100000
def tagOf (which : Nat) : Str := if which = 1 then Str.ofString "- " else Str.ofString "+ "
section
variable {w : World} {A : Around}
set_option maxHeartbeats 4000000 in
theorem seg_start {mg mb : Str → Option Value} {h₀ : Heap} {S I L dl : Addr} {g which : Nat} {lines : List Str} {vs : List Value} {u : Tok} {m : Str → Option Value} {s : Shared} (G : Gl mg mb) (Iv : Inv w mg mb h₀) (hA : A.handled = none) (hi : StrsAre vs lines) (hll : ∀ x ∈ lines, x.length ≤ 1000) (hw : which = 1 ∨ which = 2)
    (hLS : L ≠ S) (hdS : dl ≠ S) (hIL : I ≠ L) (hdL : dl ≠ L) (h0L : h₀.get? L = none) (hSa : ∃ o, s.heap.get? S = some o) (hdl : s.heap.IsList dl vs.toArray) (hn : s.heap.Ns L m) (m1 : m "delta" = some (.ref dl)) (m2 : m "which" = some (.int (which : Int) u))
    (hR : Rel h₀ S I g s s) :
    Seg (model P0 w) A (endR h₀ S I g) (protoR h₀ S I g ((lines.filter (pOf (tagOf which))).map fOf)) (lines.filter (pOf (tagOf which))).length s (.func (fnBody (stmtAt 13)) (evR L)) ((model P0 w).den (.func (fnBody (stmtAt 13)) (evR L))) [] s := by
  have hho : (A.over (.func (fnBody (stmtAt 13)) (evR L)) []).handled = none := hA
  have keep0 : ∀ {h' : Heap}, (∀ b o, s.heap.get? b = some o → h'.get? b = some o) → ∀ b o, h₀.get? b = some o → h'.get? b = some o := fun k b o e => let ⟨_, _, e1, k0, _⟩ := hR; k b o (by rw [e1]; exact k0 b o e)
  refine seg_func ?_
  refine seg_execs_cons ?_
  refine seg_wrap ?_
  refine wpAny_Try_except ?_
  refine wpAny_execs_cons ?_
  refine wpAny_Assign_Name ?_
  refine Subscript_ ?_
  refine Dict_lits_int (D := [(.int 1, .str (Str.ofString "- ")), (.int 2, .str (Str.ofString "+ "))]) rfl rfl (by decide) rfl rfl (by decide) (by decide) fun a o h₁ tk₁ ha ho₁ hto k₁ => ?_
  have I₁ : Inv w mg mb h₁ := Iv.keep (.of_keeps [] (keep0 k₁))
  refine Call_ ?_
  refine nmB (s := { s with heap := h₁, toks := tk₁ }) G I₁ rfl ?_
  refine PyProof.Rows.callWith_type1 ?_
  refine args_cons ?_
  refine nm (s := { s with heap := h₁, toks := tk₁ }) (env := evR L) (hn.keeps k₁) m2 ?_
  refine args_nil ?_
  refine call_int_int ?_
  have hlo : (a == sysModules) = false := by
    have h1 : 131 < s.heap.objs.size := (Iv.keep (.of_keeps [] (keep0 fun _ _ e => e)) : Inv w mg mb s.heap).size
    have h2 : (1 : Nat) ≠ a := fun z => by
      have ha' : s.heap.objs.size ≤ (a : Nat) := ha
      omega
    simpa [sysModules] using Ne.symm h2
  obtain ⟨kvs, hd1, hd2⟩ := hto
  have hdo : Heap.DictOf (intKind P0 w) h₁ a kvs := Heap.dictOf_iff.mpr ⟨o, ho₁, hd1⟩
  have hlk : PySem.Spec.lookup (.int (which : Int)) [(.int 1, .str (Str.ofString "- ")), (.int 2, .str (Str.ofString "+ "))] = some (.str (tagOf which)) := by rcases hw with rfl | rfl <;> rfl
  obtain ⟨v, hv, hfl⟩ := hd2.of_lookup same_int hlk
  obtain ⟨tt, rfl⟩ := Flat.str_inv hfl
  refine subscriptTail_builtinR (s := { s with heap := h₁, toks := tk₁ }) (x := .str (tagOf which) tt) hdo.typeIs slot_dict_getitem.lookup (wpAny_getItem_of (s := { s with heap := h₁, toks := tk₁ }) (intKind_is P0 w _ _) hdo.mapOf hv ⟨rfl, ?_⟩)
  refine wpAny_storeName_local (s := { s with heap := h₁, toks := _ }) (env := evR L) rfl (hn.keeps k₁) (fun h₂ ns₂ x₂ => ?_) rfl
  refine wpAny_execs_nil ?_
  refine wpAny_execs_nil ?_
  refine seg_execs_cons ?_
  refine seg_wrap ?_
  refine wpAny_Assign_Name ?_
  refine Tuple_ ?_
  refine args_cons ?_
  refine Constant_str ?_
  refine args_cons ?_
  refine nm (s := { s with heap := h₂, toks := _ }) (env := evR L) ns₂ rfl ?_
  refine args_nil ?_
  refine new_tuple ?_ hz2
  have hLs : L < h₂.objs.size := let ⟨_, _, _, e, _⟩ := ns₂; Heap.lt_size e
  obtain ⟨T, hTe⟩ : ∃ T, T = h₂.objs.size := ⟨_, rfl⟩
  generalize hh₃ : h₂.push _ = h₃
  have k₃ : ∀ b o, h₂.get? b = some o → h₃.get? b = some o := fun b o e => by rw [← hh₃]; exact Heap.get?_push_of_some _ e
  obtain ⟨t₃, hT₃⟩ : ∃ t₃, h₃.IsTuple T #[.str bl2 t₃, .str (tagOf which) tt] := by rw [← hh₃, hTe]; exact ⟨_, _, Heap.get?_push_size _ rfl, rfl, _, rfl⟩
  have hTn : h₂.get? T = none := by rw [hTe]; exact Heap.get?_none_of_le (Nat.le_refl _)
  rw [show ({ s with heap := h₂, toks := _ } : Shared).heap.objs.size = T from hTe.symm]
  clear hh₃ hTe
  refine wpAny_storeName_local (s := { s with heap := h₃, toks := _ }) (env := evR L) rfl (ns₂.keeps k₃) (fun h₄ ns₄ x₄ => ?_) rfl
  refine seg_execs_cons ?_
  rw [arm_exec_For]
  refine seg_bind_wrap (wpAny_standAt ?_)
  refine seg_bind_wrap ?_
  refine nm (s := { s with heap := h₄, toks := _ }) (env := evR L) ns₄ m1 ?_
  refine seg_bind_wrap (wpAny_of_eq (rfl : foldedSetIterable _ _ _ = pure _) ?_)
  refine seg_bind_wrap (wpAny_standAt ?_)
  refine seg_bind_wrap (wpAny_holding ?_)
  have k04 : ∀ b o, b ≠ L → s.heap.get? b = some o → h₄.get? b = some o := fun b o hb e => (x₄.2 b hb).trans (k₃ b o ((x₂.2 b hb).trans (k₁ b o e)))
  have dl₄ : h₄.IsList dl vs.toArray := let ⟨o, e, z⟩ := hdl; ⟨o, k04 _ _ hdL e, z⟩
  refine wpAny_pyIter_list (s := { s with heap := h₄, toks := _ }) dl₄ ?_
  obtain ⟨It, hIt⟩ : ∃ It, It = h₄.objs.size := ⟨_, rfl⟩
  generalize hh₅ : h₄.push _ = h₅
  have k₅ : ∀ b o, h₄.get? b = some o → h₅.get? b = some o := fun b o e => by rw [← hh₅]; exact Heap.get?_push_of_some _ e
  have it₅ : h₅.IsListIter It dl 0 := by rw [← hh₅, hIt]; exact ⟨_, Heap.get?_push_size _ rfl, rfl, rfl⟩
  have hIn : h₄.get? It = none := by rw [hIt]; exact Heap.get?_none_of_le (Nat.le_refl _)
  rw [show ({ s with heap := h₄, toks := _ } : Shared).heap.objs.size = It from hIt.symm]
  clear hh₅ hIt
  have hTn0 : s.heap.get? T = none := by
    cases e : s.heap.get? T with
    | none => rfl
    | some o =>
      by_cases hTL : T = L
      · subst hTL
        obtain ⟨o', _, _, e', _⟩ := ns₂
        have e' : h₂.get? T = some o' := e'
        rw [hTn] at e'; cases e'
      · have := (x₂.2 T hTL).trans (k₁ T o e)
        rw [hTn] at this; cases this
  have hTL : T ≠ L := fun z => by
    subst z
    obtain ⟨o, _, _, e, _⟩ := hn
    rw [hTn0] at e; cases e
  have hIn0 : ∀ b o, s.heap.get? b = some o → b ≠ It := fun b o e z => by
    subst z
    by_cases hL : b = L
    · subst hL
      obtain ⟨o', _, _, e', _⟩ := ns₄
      have e' : h₄.get? b = some o' := e'
      rw [hIn] at e'; cases e'
    · have := k04 b o hL e
      rw [hIn] at this; cases this
  have hLIt : It ≠ L := fun z => by
    obtain ⟨o, _, _, e, _⟩ := hn
    exact hIn0 L o e z.symm
  obtain ⟨oS, hoS⟩ := hSa
  have hT₄ : h₄.IsTuple T #[.str bl2 t₃, .str (tagOf which) tt] := let ⟨o, e, z⟩ := hT₃; ⟨o, (x₄.2 T hTL).trans e, z⟩
  have hTIt : T ≠ It := fun z => by
    obtain ⟨o, e, _⟩ := hT₄
    rw [z, hIn] at e; cases e
  obtain ⟨_, _, _, r0, rS, rI⟩ := id hR
  obtain ⟨oI, nmI, qnI, hoI, hrI⟩ := id rI
  obtain ⟨_, _, eR, r0', _, rI'⟩ := id hR
  have hs0 : ∀ b o, h₀.get? b = some o → s.heap.get? b = some o := fun b o e => by rw [eR]; exact r0' b o e
  have hIs : ∃ o, s.heap.get? I = some o := by rw [eR]; exact let ⟨o, _, _, e, _⟩ := rI'; ⟨o, e⟩
  obtain ⟨oI', hoI'⟩ := hIs
  obtain ⟨od, hod, _⟩ := id hdl
  refine seg_call fun p => ?_
  have k05 : ∀ b o, b ≠ L → s.heap.get? b = some o → h₅.get? b = some o := fun b o hb e => k₅ b o (k04 b o hb e)
  have h0It : h₀.get? It = none := by
    cases e : h₀.get? It with
    | none => rfl
    | some o => exact absurd rfl (hIn0 It o (hs0 _ _ e))
  have hRel : ∀ tk, Rel h₀ S I g s { s with heap := h₅, toks := tk } := fun tk => hR.step (fun b o e0 e => k05 b o (fun z => by rw [z, h0L] at e0; cases e0) e) (fun o e => k05 _ o (Ne.symm hLS) e) fun o e => k05 _ o hIL e
  refine seg_restore (w := w) (A := A) (h₀ := h₀) (S := S) (I := I) (L := L) (It := It) (T := T) (dl := dl) (g := g) (tag := tagOf which) (t1 := t₃) (t2 := tt) hi hll ?_ ?_ ?_
    (Ne.symm (hIn0 S _ hoS)) hLS (fun z => by rw [z, hoS] at hTn0; cases hTn0) hdS hIL (hIn0 I _ hoI') hLIt hTL hTIt hdL (hIn0 dl _ hod) h0L h0It ?_ lines.length 0 s { s with heap := h₅, toks := _ } _ rfl (Nat.zero_le _) it₅ (dl₄.at fun o e => k₅ _ _ e) (ns₄.keeps k₅) rfl (let ⟨o, e, z⟩ := hT₄; ⟨o, k₅ _ _ e, z⟩) (hRel _)
  · rfl
  · rfl
  · exact hA
  · intro c s₀ s' hR'
    refine seg_leaf (.ok .next) ?_
    refine seg_execs_nil (env := evR L) ?_
    exact seg_end (.ok (.ret .none)) ⟨rfl, rfl, hR'⟩
end
end
section
open PySem PySem.W PyProof.Rows PySem.Calls PySem.Builtin PySem.Builtin.Str PySem.StrLaws
set_option maxRecDepth 100000
/-- what the generators may do: the elder ones stand -/
def Kg (a b : Array GenState) : Prop := (∀ (i : Nat) (x : GenState), a[i]? = some x → b[i]? = some x) ∧ ((∀ x ∈ a, x.bare = true) → ∀ x ∈ b, x.bare = true)
theorem Kg.refl (a : Array GenState) : Kg a a := ⟨fun _ _ e => e, id⟩
theorem Kg.trans {a b c : Array GenState} (x : Kg a b) (y : Kg b c) : Kg a c := ⟨fun i z e => y.1 i z (x.1 i z e), fun h => y.2 (x.2 h)⟩
theorem Kg.of {a b : Array GenState} {c : GenState} (h : GenOnly a.size (a.push c) b) (hf : b[a.size]? = some .finished) : Kg a b := by
  obtain ⟨hs, ho⟩ := h
  refine ⟨fun i x e => ?_, fun hb x hx => ?_⟩
  · have hi : i < a.size := (Array.getElem?_eq_some_iff.mp e).1
    rw [ho i (Nat.ne_of_lt hi), Array.getElem?_push, if_neg (Nat.ne_of_lt hi)]
    exact e
  · obtain ⟨i, hi, rfl⟩ := Array.mem_iff_getElem.mp hx
    by_cases hg : i = a.size
    · subst hg
      rw [Array.getElem?_eq_getElem hi] at hf
      rw [Option.some.inj hf]; rfl
    · have h1 := ho i hg
      rw [Array.getElem?_eq_getElem hi, Array.getElem?_push, if_neg hg] at h1
      obtain ⟨hi', e'⟩ := Array.getElem?_eq_some_iff.mp h1.symm
      rw [← e']
      exact hb _ (Array.getElem_mem hi')
def StR (w : World) (A : Around) (h₀ : Heap) (S I : Addr) (g : Nat) (out : List Str) (b : Shared) (i : Nat) (s : Shared) : Prop :=
  Rel h₀ S I g s s ∧ (∃ o, s.heap.get? S = some o) ∧ s.drawn = b.drawn ∧ s.os = b.os ∧ GenOnly g b.gens s.gens ∧ ∃ gs, s.gens[g]? = some gs ∧
    ∀ s'' : Shared, (∀ b o, b ≠ S → s.heap.get? b = some o → s''.heap.get? b = some o) → Rel h₀ S I g s'' s'' → (∃ o, s''.heap.get? S = some o) →
      gs.Goes (model P0 w) A.in1 (endR h₀ S I g) (protoR h₀ S I g out) (out.length - i) (.send .none) s''
def FinR (h₀ : Heap) (g : Nat) (b s : Shared) : Prop := (∀ b o, h₀.get? b = some o → s.heap.get? b = some o) ∧ s.drawn = b.drawn ∧ s.os = b.os ∧ GenOnly g b.gens s.gens ∧ s.gens[g]? = some .finished
theorem Rel.self {h₀ : Heap} {S I : Addr} {g : Nat} {s : Shared} (k0 : ∀ b o, h₀.get? b = some o → s.heap.get? b = some o) (hI : s.heap.IsGen I g) : Rel h₀ S I g s s := ⟨s.heap, s.toks, rfl, k0, fun _ e => e, hI⟩
theorem Rel.keep0 {h₀ : Heap} {S I : Addr} {g : Nat} {s₀ s : Shared} (x : Rel h₀ S I g s₀ s) : ∀ b o, h₀.get? b = some o → s.heap.get? b = some o := by obtain ⟨h', tk, rfl, a, _⟩ := x; exact a
theorem Rel.isGen {h₀ : Heap} {S I : Addr} {g : Nat} {s₀ s : Shared} (x : Rel h₀ S I g s₀ s) : s.heap.IsGen I g := by obtain ⟨h', tk, rfl, _, _, c⟩ := x; exact c
theorem walks_restore {w : World} {A : Around} {mg mb : Str → Option Value} {h₀ : Heap} {S I : Addr} {g : Nat} {out : List Str} {b : Shared} (Iv : Inv w mg mb h₀) (hh : A.handled = none) (hroom : A.depth < recursionLimit) (h0S : h₀.get? S = none) (hIS : I ≠ S) :
    WalksG w A I S out.length (fun i v => ∃ y t, out[i]? = some y ∧ v = .str y t) (StR w A h₀ S I g out b) (FinR h₀ g b) where
  frame := fun i s h' tk st hk hS => by
    obtain ⟨hR, hSa, hd, ho, hg, gs, hgs, hgo⟩ := st
    have k0 : ∀ b o, h₀.get? b = some o → h'.get? b = some o := fun b o e => hk b o (fun z => by rw [z, h0S] at e; cases e) (hR.keep0 b o e)
    have hI' : h'.IsGen I g := let ⟨o, nm, qn, e, r⟩ := hR.isGen; ⟨o, nm, qn, hk I o hIS e, r⟩
    exact ⟨Rel.self k0 hI', hS, hd, ho, hg, gs, hgs, fun s'' ag rr sa => hgo s'' (fun b o hb e => ag b o hb (hk b o hb e)) rr sa⟩
  item := fun i s Q E hi st hQ => by
    obtain ⟨hR, hSa, hd, ho, hg, gs, hgs, hgo⟩ := st
    obtain ⟨m, hm⟩ : ∃ m, out.length - i = m + 1 := ⟨out.length - i - 1, by omega⟩
    rw [hm] at hgo
    have hl : s.heap.NoLimit := (Iv.keep (.of_keeps [] hR.keep0)).lim
    refine wpAny_pyNext_gen (P := fun n s₀ s₁ => n = 0 ∧ Rel h₀ S I g s₀ s₁) hh hl hroom hR.isGen hgs (hgo (s.setGen g .running) (fun _ _ _ e => e) (Rel.self hR.keep0 hR.isGen) hSa) (fun v s₁ gs' hv => ?_) (fun s₁ hp h' hk => ?_)
    · obtain ⟨⟨y, t, hy, rfl⟩, hr, hkap⟩ := hv
      have hidx : out.length - 1 - (m + 1 - 1) = i := by omega
      rw [hidx] at hy
      obtain ⟨h₁, tk₁, rfl, a, b', c⟩ := hr
      refine hQ _ _ ⟨y, t, hy, rfl⟩ ⟨Rel.self a c, let ⟨o, e⟩ := hSa; ⟨o, b' o e⟩, hd, ho, hg.trans ((GenOnly.setGen s g .running).trans (GenOnly.setGen _ g gs')), gs', setGen_self (gs := .running) (setGen_self hgs), fun s'' ag rr sa => ?_⟩ fun o e => b' o e
      have e : out.length - (i + 1) = m := by omega
      rw [e]
      exact hkap s'' ag rr
    · exact absurd hp.1 (Nat.succ_ne_zero m)
  done := fun s Q E st hQ => by
    obtain ⟨hR, hSa, hd, ho, hg, gs, hgs, hgo⟩ := st
    rw [Nat.sub_self] at hgo
    have hl : s.heap.NoLimit := (Iv.keep (.of_keeps [] hR.keep0)).lim
    refine wpAny_pyNext_gen (P := fun n s₀ s₁ => n = 0 ∧ Rel h₀ S I g s₀ s₁) hh hl hroom hR.isGen hgs (hgo (s.setGen g .running) (fun _ _ _ e => e) (Rel.self hR.keep0 hR.isGen) hSa) (fun v s₁ gs' hv => ?_) (fun s₁ hp h' hk => ?_)
    · obtain ⟨_, hr, hkap⟩ := hv
      exact False.elim (hkap s₁ (fun _ _ _ e => e) (Rel.self hr.keep0 hr.isGen))
    · obtain ⟨_, h₁, tk₁, rfl, a, b', c⟩ := hp
      exact hQ _ ⟨fun b o e => hk b o (a b o e), hd, ho, hg.trans ((GenOnly.setGen s g .running).trans (GenOnly.setGen _ g .finished)), setGen_self (gs := .running) (setGen_self hgs)⟩ fun o e => hk S o (b' o e)
  gen := fun i s st => ⟨g, st.1.isGen⟩
section
variable {w : World} {A : Around} {E : Value → Shared → Prop} {s : Shared} {mg mb : Str → Option Value} {outer : List Env}
theorem strsAre_items {acc : Array Value} {out : List Str} (h : ItemsOf (fun i v => ∃ y t, out[i]? = some y ∧ v = .str y t) acc out.length) : StrsAre acc.toList out := by
  obtain ⟨h1, h2⟩ := h
  have key : ∀ (l : List Value) (o : List Str), l.length = o.length → (∀ (j : Nat) (v : Value), l[j]? = some v → ∃ y t, o[j]? = some y ∧ v = Value.str y t) → StrsAre l o := by
    intro l
    induction l with
    | nil => intro o ho _; cases o with
      | nil => exact .nil
      | cons _ _ => cases ho
    | cons v l ih =>
      intro o ho hj
      cases o with
      | nil => cases ho
      | cons y o =>
        obtain ⟨y', t, e, rfl⟩ := hj 0 v rfl
        have : y = y' := by simpa using e
        subst this
        exact .cons y t (ih o (by simpa using ho) fun j v e => by have := hj (j + 1) v (by simpa using e); simpa using this)
  exact key _ _ (by rw [Array.length_toList]; exact h1) fun j v e => h2 j v (by simpa using e)
set_option maxHeartbeats 4000000 in
/-- list(restore(delta, which)) -/
theorem restore_list {n which : Nat} {dl : Addr} {vs : List Value} {lines : List Str} {u : Tok} {Q : Value → Shared → Prop} (G : Gl mg mb) (R : Rm (n + 1) A outer) (Iv : Inv w mg mb s.heap) (hi : StrsAre vs lines) (hll : ∀ x ∈ lines, x.length ≤ 1000) (hln : lines.length ≤ 1000) (hw : which = 1 ∨ which = 2)
    (hdl : s.heap.IsList dl vs.toArray)
    (h : ∀ s' D n zs, (∀ b o, s.heap.get? b = some o → s'.heap.get? b = some o) → s'.drawn = s.drawn → s'.os = s.os → Kg s.gens s'.gens → s.heap.get? D = none → s'.heap.get? D = some { cls := .type "list", data := .seq zs n } → StrsAre zs.toList ((lines.filter (pOf (tagOf which))).map fOf) → Q (.ref D) s') :
    wpAny (model P0 w) A (call (.ref 100) [.ref dl, .int (which : Int) u]) (fun v s₁ => wpAny (model P0 w) A (call (.type "list") [v]) Q E s₁) E s := by
  obtain ⟨o, pm, ho, hd, hc⟩ := Iv.fn (13, 100, 99) (by decide)
  have hdp := R.dp
  have hrl : recursionLimit = 1000 := by decide
  refine wpAny_call (codeAny_call_generator (fd := fd 13 pm (.ref 99)) (body := fnBody (stmtAt 13)) (by rw [hrl]; omega) ho hd rfl rfl rfl hc ?_)
  have hb : bindArgs (fd 13 pm (.ref 99)) ⟨[.ref dl, .int (which : Int) u], []⟩ = pure [(Str.ofString "delta", Value.ref dl), (Str.ofString "which", Value.int (which : Int) u)] := by rfl
  rw [hb]
  refine wpAny_pure (wpAny_newFunctionEnv (by show ∀ x ∈ (fnScope (stmtAt 13)).names, x.2 ≠ .cell; decide) (by exact locs rfl) (fun h₁ hns hsb => ⟨Iv.lim.fresh _ hsb, ?_⟩) rfl)
  obtain ⟨L, hL⟩ : ∃ L, L = s.heap.objs.size := ⟨_, rfl⟩
  have k₁ : ∀ b o, s.heap.get? b = some o → h₁.get? b = some o := fun b o e => (hsb.2 b (Nat.ne_of_lt (Heap.lt_size e))).trans (Heap.get?_push_of_some _ e)
  have hs1 : h₁.objs.size = s.heap.objs.size + 1 := by rw [hsb.1, Heap.size_push]
  show wpAny _ _ (call (.type "list") [.ref h₁.objs.size]) _ _ _
  generalize hh₂ : h₁.push _ = h₂
  have k₂ : ∀ b o, h₁.get? b = some o → h₂.get? b = some o := fun b o e => by rw [← hh₂]; exact Heap.get?_push_of_some _ e
  have hs2 : h₂.objs.size = s.heap.objs.size + 2 := by rw [← hh₂, Heap.size_push, hs1]
  have hG : h₂.IsGen h₁.objs.size s.gens.size := by rw [← hh₂]; exact ⟨_, _, _, Heap.get?_push_size _ rfl, rfl, rfl, rfl⟩
  clear hh₂
  have k02 : ∀ b o, s.heap.get? b = some o → h₂.get? b = some o := fun b o e => k₂ b o (k₁ b o e)
  have hdls : dl < s.heap.objs.size := let ⟨_, e, _⟩ := hdl; Heap.lt_size e
  have h0S : s.heap.get? h₂.objs.size = none := Heap.get?_none_of_le (by rw [hs2]; exact Nat.le_add_right _ 2)
  have n12 : h₁.objs.size ≠ h₂.objs.size := by omega
  have n02 : s.heap.objs.size ≠ h₂.objs.size := by omega
  have n01 : h₁.objs.size ≠ s.heap.objs.size := by omega
  have l12 : h₁.objs.size < h₂.objs.size := by omega
  have l02 : s.heap.objs.size < h₂.objs.size := by omega
  have nd2 : dl ≠ h₂.objs.size := Nat.ne_of_lt (Nat.lt_trans hdls l02)
  have hroom : A.in1.in1.depth < recursionLimit := by show A.depth < recursionLimit; rw [hrl]; omega
  refine list_gen (s := { s with heap := h₂, gens := s.gens.push (.fresh (.func (fnBody (stmtAt 13)) (evR s.heap.objs.size))), toks := _ })
    (walks_restore (A := A.in1.in1) (g := s.gens.size) (out := (lines.filter (pOf (tagOf which))).map fOf) (b := { s with gens := s.gens.push (.fresh (.func (fnBody (stmtAt 13)) (evR s.heap.objs.size))) }) Iv R.hd hroom h0S n12) ?_ l12 ?_ ?_
  · have hll' : ((lines.filter (pOf (tagOf which))).map fOf).length = (lines.filter (pOf (tagOf which))).length := List.length_map ..
    refine ⟨Rel.self (fun b o e => Heap.get?_push_of_some _ (k02 b o e)) (hG.push _), ⟨_, Heap.get?_push_size _ rfl⟩, rfl, rfl, ⟨rfl, fun _ _ => rfl⟩, .fresh (.func (fnBody (stmtAt 13)) (evR s.heap.objs.size)), Array.getElem?_push_size .., fun s'' ag rr sa => ⟨rfl, ?_⟩⟩
    rw [hll', Nat.sub_zero]
    refine seg_start (u := u) (m := fun x => [(Str.ofString "delta", Value.ref dl), (Str.ofString "which", Value.int (which : Int) u)].reverse.lookup x) G Iv R.hd hi hll hw ?_ ?_ ?_ ?_ ?_ sa ?_ ?_ rfl rfl rr
    · exact n02
    · exact nd2
    · exact n01
    · exact Nat.ne_of_lt hdls
    · exact Heap.get?_none_of_le (Nat.le_refl _)
    · obtain ⟨o, e, z⟩ := hdl
      exact ⟨o, ag _ _ nd2 (Heap.get?_push_of_some _ (k02 _ _ e)), z⟩
    · exact hns.at' fun o e => ag _ _ n02 (Heap.get?_push_of_some _ (k₂ _ _ e))
  · rintro s' acc c ⟨f1, f2, f3, f4, f5⟩ hS hit
    exact h s' _ c acc f1 f2 f3 (Kg.of f4 f5) h0S hS (strsAre_items hit)
  · rw [sizeLine_eq, List.length_map]
    exact Nat.le_trans (List.length_filter_le _ _) (Nat.le_trans hln (by decide))
end
end
section
open PySem PySem.W PyProof.Rows PySem.Calls PySem.Builtin PySem.Builtin.Str PySem.StrLaws
set_option maxRecDepth 100000
def VA (x : Str) (r : Nat ⊕ Nat) (v : Value) : Prop := match r with
  | .inl q => ∃ u, v = .int (q : Int) u
  | .inr q => ∃ c u, x.cps[q]? = some c ∧ v = .str (errText (msgOf c) x q) u
def VT (r : Nat ⊕ (Nat × Nat × Nat)) (v : Value) : Prop := match r with
  | .inl q => ∃ u, v = .int (q : Int) u
  | .inr (c, k, j) => ∃ u, v = .str (tellText c k j) u
section
variable {w : World} {A : Around} {E : Value → Shared → Prop} {s : Shared} {mg mb : Str → Option Value} {outer : List Env}
theorem asked_any {n p : Nat} {x : Str} {t u : Tok} (G : Gl mg mb) (R : Rm (n + 6) A outer) (I : Inv w mg mb s.heap) (T : Tab s.heap) (hF : s.heap.FunFrames {} outer) (hp : p ≤ x.length) (hx : x.length ≤ 100000) :
    wpAny (model P0 w) A (call (.ref 119) [.str x t, .int p u]) (fun v s' => ∃ r h' tk, Skips x p r ∧ VA x r v ∧ s' = { s with heap := h', toks := tk } ∧ Keep (frs outer) s.heap h') E s :=
  asked_spec (n := n) G R I T hF hp hx (fun q hs h' tk u' k => ⟨.inl q, h', tk, hs, ⟨u', rfl⟩, rfl, k⟩) fun q c hs hc _ h' tk u' k => ⟨.inr q, h', tk, hs, ⟨c, u', hc, rfl⟩, rfl, k⟩
theorem tells_any {n first : Nat} {d : Addr} {vs : List Value} {ys : List Str} {u : Tok} (G : Gl mg mb) (R : Rm (n + 1) A outer) (I : Inv w mg mb s.heap) (T : Tab s.heap) (hF : s.heap.FunFrames {} outer)
    (dl : s.heap.IsList d vs.toArray) (hdf : d ∉ frs outer) (hi : StrsAre vs ys) (hlen : ∀ b ∈ ys, b.length ≤ 8) (hyl : ys.length ≤ 9) (hfirst : first ≤ ys.length) :
    wpAny (model P0 w) A (call (.ref 112) [.ref d, .int first u]) (fun v s' => ∃ r h' tk, Tells ys first r ∧ VT r v ∧ s' = { s with heap := h', toks := tk } ∧ Keep (frs outer) s.heap h') E s :=
  tells_spec (n := n) G R I T hF dl hdf hi hlen hyl hfirst (fun q hs h' tk u' k => ⟨.inl q, h', tk, hs, ⟨u', rfl⟩, rfl, k⟩) fun c k j hs h' tk u' kp => ⟨.inr (c, k, j), h', tk, hs, ⟨u', rfl⟩, rfl, kp⟩
/-- what is asked and what is told are the same -/
theorem same_said {x : Str} {ys : List Str} {k : Nat} {r : Nat ⊕ Nat} {r' : Nat ⊕ (Nat × Nat × Nat)} {v v' : Value} {Q : Value → Shared → Prop} (hx : x.cps.toList = flat ys) (hl : Lines ys) (h1 : Skips x (sumLen (ys.take k)) r) (h2 : Tells ys k r') (a : VA x r v) (b : VT r' v')
    (h : ∀ tk, Q (.bool false) { s with toks := tk }) : wpAny (model P0 w) A (compareOp .NotEq v v') Q E s := by
  have e := h1.det (tells_skips hx hl h2)
  subst e
  match r', b, h2, a with
  | .inl q, b, h2, a =>
    obtain ⟨u, rfl⟩ := a
    obtain ⟨u', rfl⟩ := b
    refine ne_int ?_
    have := h s.toks
    simpa using this
  | .inr (c, k', j), b, h2, a =>
    obtain ⟨c', u, hc', rfl⟩ := a
    obtain ⟨u', rfl⟩ := b
    obtain ⟨bb, hb, hj, hbad⟩ := tells_bad_at h2
    obtain ⟨e1, e2, e3⟩ := coords hx hl hb hj
    obtain rfl : c' = c := Option.some.inj (hc'.symm.trans e1)
    rw [text_eq hbad e2 e3]
    refine P.ne_str ?_
    have := h s.toks
    simpa using this
theorem frames_inC {h₀ h : Heap} {L a c : Addr} {i : Nat} {m : Str → Option Value} (hF : h₀.FunFrames {} outer) (S : St (frs outer) h₀ L m h) (hn : 88 ∉ frs outer) (hk : (fnScope (stmtAt i)).kind = .function) :
    h.FunFrames {} (evC i L a c :: outer) := by
  obtain ⟨o, es, ep, e, d, _⟩ := S.ns
  exact ⟨by show (fnScope (stmtAt i)).kind ≠ .module; rw [hk]; decide, ⟨L, o, rfl, rfl, e, fun vs q => by rw [d] at q; cases q⟩, S.keep.frames hF hn⟩
end
end
section
open PySem PySem.W PyProof.Rows PySem.Calls PySem.Builtin PySem.Builtin.Str PySem.StrLaws
set_option maxRecDepth 100000
abbrev evS (L : Addr) : Env := evC 18 L 124 123
theorem slice_from (x : Str) (p : Nat) (hp : p ≤ x.length) : (Txt.slice x (some (p : Int)) none).cps.toList = x.cps.toList.drop p := by
  have : Txt.slice x (some (p : Int)) none = _ := sliceText_from (x := x) (i := (p : Int)) ⟨by omega, by rw [Array.length_toList]; show (p : Int) ≤ (x.length : Int); omega⟩
  rw [this]
  simp
  exact List.take_of_length_le (by simp)
theorem flat_take (ys : List Str) (k : Nat) : (flat ys).take (sumLen (ys.take k)) = flat (ys.take k) := by
  have : flat ys = flat (ys.take k) ++ flat (ys.drop k) := by
    conv => lhs; rw [← List.take_append_drop k ys]
    unfold flat
    rw [List.flatMap_append]
  rw [this, ← flat_len]; simp
theorem flat_drop (ys : List Str) (k : Nat) : (flat ys).drop (sumLen (ys.take k)) = flat (ys.drop k) := by
  have : flat ys = flat (ys.take k) ++ flat (ys.drop k) := by
    conv => lhs; rw [← List.take_append_drop k ys]
    unfold flat
    rw [List.flatMap_append]
  rw [this, ← flat_len]; simp
theorem sum_take_le (ys : List Str) (k : Nat) : sumLen (ys.take k) ≤ sumLen ys := by
  conv => rhs; rw [← List.take_append_drop k ys]
  unfold sumLen
  rw [List.map_append, List.sum_append]
  omega
theorem sum_le8 : ∀ (l : List Str), (∀ b ∈ l, b.length ≤ 8) → sumLen l ≤ 8 * l.length := by
  intro l
  induction l with
  | nil => intro _; exact Nat.le_refl _
  | cons a l ih =>
    intro h
    have h1 := ih fun b hb => h b (List.mem_cons_of_mem _ hb)
    have h2 := h a (List.mem_cons_self ..)
    simp only [sumLen, List.map_cons, List.sum_cons, List.length_cons] at h1 ⊢
    omega
section
variable {w : World} {A : Around} {E : Value → Shared → Prop} {s : Shared} {mg mb : Str → Option Value} {outer : List Env}
theorem slice_strL {env : Env} {value lower : Expr} {p pos : Pos} {Q : Value → Shared → Prop}
    (h : wpAny (model P0 w) A (eval value env) (fun o s₁ => wpAny (model P0 w) A (eval lower env) (fun vl s₂ => ∃ (x : Str) (t : Tok) (k : Nat) (u : Tok), o = .str x t ∧ vl = .int (k : Int) u ∧ k ≤ x.length ∧ x.length ≤ sizeLine ∧
      ∀ (y : Str) t' tk h', y.cps.toList = x.cps.toList.drop k → (∀ b o, s₂.heap.get? b = some o → h'.get? b = some o) → Q (.str y t') { s₂ with heap := h', toks := tk }) E s₁) E s)
    (ht : ∀ o r, letTemporaryGo value o r = pure () := by intro _ _; rfl) :
    wpAny (model P0 w) A (eval (.Subscript value (.Slice (some lower) none none p) pos) env) Q E s := by
  refine slice_str (wpAny_mono h (fun o s₁ h₁ => wpAny_evalPart_some (wpAny_mono h₁ (fun vl s₂ h₂ => wpAny_evalPart_none ?_) fun _ _ e => e)) fun _ _ e => e) ht
  obtain ⟨x, t, k, u, rfl, rfl, hk, hx, hq⟩ := h₂
  exact ⟨x, t, some (_, _), none, rfl, rfl, rfl, hx, fun t' tk => hq _ _ _ _ (slice_from x k hk) fun b o e => Heap.get?_push_of_some _ e⟩
set_option maxHeartbeats 4000000 in
theorem side_turn {n first : Nat} {L d : Addr} {h₀ : Heap} {m : Str → Option Value} {vs : List Value} {ys : List Str} {x : Str} {t u : Tok} {Q : Flow → Shared → Prop} (G : Gl mg mb) (R : Rm (n + 6) A (evS L :: outer)) (I : Inv w mg mb h₀) (T : Tab h₀) (hF : h₀.FunFrames {} outer) (h88 : 88 ∉ frs outer)
    (S : St (frs outer) h₀ L m s.heap) (m1 : m "due" = some (.ref d)) (m2 : m "text" = some (.str x t)) (m3 : m "first" = some (.int (first : Int) u)) (dl : s.heap.IsList d vs.toArray) (hd0 : h₀.get? d = none) (hi : StrsAre vs ys) (hx : x.cps.toList = flat ys) (hl : Lines ys)
    (hlen : ∀ b ∈ ys, b.length ≤ 8) (hyl : ys.length ≤ 9) (hfirst : first ≤ ys.length)
    (h : ∀ h' tk m', St (frs outer) h₀ L m' h' → m' "due" = some (.ref d) → m' "text" = some (.str x t) → KX (XF L outer) s.heap h' → Q .next { s with heap := h', toks := tk }) :
    wpAny (model P0 w) A (execs (forBody ((fnBody (stmtAt 18)).getD 5 (.Pass ⟨0, 0, 0, 0⟩))) (evS L)) Q E s := by
  have hX : (evS L).locals ∈ XF L outer := by show L ∈ XF L outer; simp
  have hvl : vs.length = ys.length := hi.length
  have hs8 := sum_le8 ys hlen
  have hxl : x.length = sumLen ys := by show x.cps.size = _; rw [← Array.length_toList, hx, flat_len]
  have hpl := sum_take_le ys first
  have hdX : d ∉ XF L outer := notIn_new hF T hd0 (ns_ne_list S.ns dl)
  have hdF : d ∉ frs (evS L :: outer) := fun z => hdX (by rw [frs_cons (L := L) rfl] at z; exact List.mem_cons_of_mem _ z)
  have hFX : ∀ b ∈ frs (evS L :: outer), b ∈ XF L outer := fun b hb => by rw [frs_cons (L := L) rfl] at hb; exact List.mem_cons_of_mem _ hb
  have h8X : (88 : Addr) ∈ XF L outer := List.mem_cons_self ..
  have hFr : ∀ (m : Str → Option Value) h₂, St (frs outer) h₀ L m h₂ → h₂.FunFrames {} (evS L :: outer) := fun m h₂ S₂ => frames_inC (i := 18) (a := 124) (c := 123) hF S₂ h88 rfl
  refine wpAny_execs_cons ?_
  refine wpAny_Assign_Name ?_
  refine Call_ ?_
  refine nmB G (S.inv I) rfl ?_
  refine PyProof.Rows.callWith_builtin1 ?_
  refine args_cons ?_
  refine MethodCall_ ?_
  refine Constant_str ?_
  with_reducible refine GM.join ?_
  refine callM ?_
  refine args_cons ?_
  refine slice_list ?_
  refine nm S.ns m1 ?_
  refine wpAny_evalPart_none ?_
  refine wpAny_evalPart_some ?_
  refine nm S.ns m3 ?_
  refine ⟨d, vs.toArray, none, some (first : Int), rfl, dl, by rw [sizeLine_eq]; simp; omega, .none, .int _ _, fun h₁ a k₁ p₁ f₁ => ?_⟩
  rw [slicePick_upto'] at p₁
  have S₁ := S.keeps k₁
  have he0 : (Str.ofString "").length = 0 := by decide +kernel
  refine args_nil ?_
  refine join_list (ys := ys.take first) p₁.isList (by simpa using strsAre_take hi first) (by rw [he0]; have := hpl; simp only [sumLen] at this hs8; omega) fun t₂ tk₂ => ?_
  refine args_nil ?_
  have hj : ((Txt.join (Str.ofString "") (ys.take first)).length : Int) = ((sumLen (ys.take first) : Nat) : Int) := by rw [join_len]
  refine P.len_str (by rw [hj]; omega) ?_
  rw [hj]
  refine st_storeX (X := XF L outer) S₁ hX fun h₂ S₂ x₂ => ?_
  have dl₂ : h₂.IsList d vs.toArray := x₂.isList hdX (dl.at fun o e => k₁ _ _ e)
  refine wpAny_execs_cons ?_
  refine wpAny_If ?_
  refine wpAny_isTrue_Compare1 ?_
  refine Call_ ?_
  refine nmG G (S₂.inv I) rfl ?_
  refine callF ?_
  refine args_cons ?_
  refine nm S₂.ns m2 ?_
  refine args_cons ?_
  refine nm S₂.ns rfl ?_
  refine args_nil ⟨(S₂.inv I).isFn (i := 17) (c := 118) (by decide), ?_⟩
  refine wpAny_mono (asked_any (n := n) G R (S₂.inv I) (S₂.keep.2 T) (hFr _ _ S₂) (by omega) (by omega)) ?_ fun _ _ e => e
  rintro v s' ⟨r, h₃, tk₃, hsk, hva, rfl, kp₃⟩
  have S₃ := S₂.on' (L := L) kp₃
  have dl₃ : h₃.IsList d vs.toArray := (KX.keep kp₃ hFX h8X).isList hdX dl₂
  refine Call_ ?_
  refine nmG (s := { s with heap := h₃, toks := tk₃ }) G (S₃.inv I) rfl ?_
  refine callF ?_
  refine args_cons ?_
  refine nm (s := { s with heap := h₃, toks := tk₃ }) S₃.ns m1 ?_
  refine args_cons ?_
  refine nm (s := { s with heap := h₃, toks := tk₃ }) S₃.ns m3 ?_
  refine args_nil ⟨(S₃.inv I).isFn (i := 16) (c := 111) (by decide), ?_⟩
  refine wpAny_mono (tells_any (s := { s with heap := h₃, toks := tk₃ }) (n := n + 5) G R (S₃.inv I) (S₃.keep.2 T) (hFr _ _ S₃) dl₃ hdF hi hlen hyl hfirst) ?_ fun _ _ e => e
  rintro v' s' ⟨r', h₄, tk₄, htl, hvt, rfl, kp₄⟩
  have S₄ := S₃.on' (L := L) kp₄
  have dl₄ : h₄.IsList d vs.toArray := (KX.keep kp₄ hFX h8X).isList hdX dl₃
  refine same_said hx hl hsk htl hva hvt fun tk₅ => ?_
  refine wpAny_truthy_bool ?_
  refine PySem.W.ite_neg (by decide) ?_
  refine wpAny_execs_nil ?_
  refine wpAny_execs_cons ?_
  refine wpAny_If ?_
  refine wpAny_isTrue_Compare1 ?_
  refine Call_ ?_
  refine nmG (s := { s with heap := h₄, toks := tk₅ }) G (S₄.inv I) rfl ?_
  refine callF ?_
  refine args_cons ?_
  refine slice_strL ?_
  refine nm (s := { s with heap := h₄, toks := tk₅ }) S₄.ns m2 ?_
  refine nm (s := { s with heap := h₄, toks := tk₅ }) S₄.ns rfl ?_
  refine ⟨x, t, sumLen (ys.take first), _, rfl, rfl, by omega, by rw [sizeLine_eq]; omega, fun x' t₆ tk₆ h₆ hsl' k₆ => ?_⟩
  have S₆ := S₄.keeps k₆
  have dl₆ : h₆.IsList d vs.toArray := dl₄.at fun o e => k₆ _ _ e
  rw [hx, flat_drop] at hsl'
  have hxl' : x'.length ≤ x.length := by
    show x'.cps.size ≤ _
    rw [← Array.length_toList, hsl', flat_len, hxl]
    conv => rhs; rw [← List.take_append_drop first ys]
    unfold sumLen
    rw [List.map_append, List.sum_append]
    omega
  have hl' : Lines (ys.drop first) := lines_sub (List.drop_sublist _ _) hl
  refine args_cons ?_
  refine wpAny_Constant_int ?_
  refine args_nil ⟨(S₆.inv I).isFn (i := 17) (c := 118) (by decide), ?_⟩
  refine wpAny_mono (asked_any (s := { s with heap := h₆, toks := _ }) (n := n) (p := 0) G R (S₆.inv I) (S₆.keep.2 T) (hFr _ _ S₆) (Nat.zero_le _) (by omega)) ?_ fun _ _ e => e
  rintro v₇ s' ⟨r₇, h₇, tk₇, hsk₇, hva₇, rfl, kp₇⟩
  have S₇ := S₆.on' (L := L) kp₇
  have dl₇ : h₇.IsList d vs.toArray := (KX.keep kp₇ hFX h8X).isList hdX dl₆
  refine Call_ ?_
  refine nmG (s := { s with heap := h₇, toks := tk₇ }) G (S₇.inv I) rfl ?_
  refine callF ?_
  refine args_cons ?_
  refine slice_list ?_
  refine nm (s := { s with heap := h₇, toks := tk₇ }) S₇.ns m1 ?_
  refine wpAny_evalPart_some ?_
  refine nm (s := { s with heap := h₇, toks := tk₇ }) S₇.ns m3 ?_
  refine wpAny_evalPart_none ?_
  refine ⟨d, vs.toArray, some (first : Int), none, rfl, dl₇, by rw [sizeLine_eq]; simp; omega, .int _ _, .none, fun h₈ a₈ k₈ p₈ f₈ => ?_⟩
  rw [slicePick_from'] at p₈
  have S₈ := S₇.keeps k₈
  refine args_cons ?_
  refine wpAny_Constant_int ?_
  refine args_nil ⟨(S₈.inv I).isFn (i := 16) (c := 111) (by decide), ?_⟩
  have ha0 : h₀.get? a₈ = none := S₇.keep.none T f₈
  have haX : a₈ ∉ XF L outer := notIn_new hF T ha0 (ns_ne_list S₈.ns p₈.isList)
  have haF : a₈ ∉ frs (evS L :: outer) := fun z => haX (hFX _ z)
  refine wpAny_mono (tells_any (s := { s with heap := h₈, toks := _ }) (n := n + 5) (first := 0) (ys := ys.drop first) (vs := vs.drop first) G R (S₈.inv I) (S₈.keep.2 T) (hFr _ _ S₈) (by simpa using p₈.isList) haF (strsAre_drop hi first) (fun b hb => hlen b (List.mem_of_mem_drop hb)) (by rw [List.length_drop]; omega) (Nat.zero_le _)) ?_ fun _ _ e => e
  rintro v₉ s' ⟨r₉, h₉, tk₉, htl₉, hvt₉, rfl, kp₉⟩
  have S₉ := S₈.on' (L := L) kp₉
  refine same_said (k := 0) hsl' hl' (by rw [List.take_zero]; exact hsk₇) htl₉ hva₇ hvt₉ fun tkA => ?_
  refine wpAny_truthy_bool ?_
  refine PySem.W.ite_neg (by decide) ?_
  refine wpAny_execs_nil ?_
  refine wpAny_execs_nil ?_
  refine h h₉ tkA _ S₉ m1 m2 ?_
  exact ((((((KX.of k₁).trans x₂).trans (KX.keep kp₃ hFX h8X)).trans (KX.keep kp₄ hFX h8X)).trans (KX.of k₆)).trans (KX.keep kp₇ hFX h8X)).trans ((KX.of k₈).trans (KX.keep kp₉ hFX h8X))
end
end
section
open PySem PySem.W PyProof.Rows PySem.Calls PySem.Builtin PySem.Builtin.Str PySem.StrLaws
set_option maxRecDepth 100000
section
variable {w : World} {A : Around} {E : Value → Shared → Prop} {s : Shared} {mg mb : Str → Option Value} {outer : List Env}
set_option maxHeartbeats 4000000 in
theorem side_rest {n : Nat} {L d D : Addr} {h₀ : Heap} {m : Str → Option Value} {vs zs : List Value} {ys : List Str} {Q : Flow → Shared → Prop} (G : Gl mg mb) (R : Rm (n + 6) A (evS L :: outer)) (I : Inv w mg mb h₀) (T : Tab h₀) (hF : h₀.FunFrames {} outer) (h88 : 88 ∉ frs outer)
    (S : St (frs outer) h₀ L m s.heap) (m1 : m "due" = some (.ref d)) (m2 : m "side" = some (.ref D)) (dl : s.heap.IsList d vs.toArray) (hd0 : h₀.get? d = none) (hi : StrsAre vs ys) (Dl : s.heap.IsList D zs.toArray) (hzi : StrsAre zs ys) (hl : Lines ys)
    (hlen : ∀ b ∈ ys, b.length ≤ 8) (hyl : ys.length ≤ 9)
    (h : ∀ h' tk, Keep (frs outer) h₀ h' → Q (.ret (.bool true)) { s with heap := h', toks := tk }) :
    wpAny (model P0 w) A (execs ((fnBody (stmtAt 18)).drop 4) (evS L)) Q E s := by
  have hX : (evS L).locals ∈ XF L outer := by show L ∈ XF L outer; simp
  have hvl : vs.length = ys.length := hi.length
  have hs8 := sum_le8 ys hlen
  have hdX : d ∉ XF L outer := notIn_new hF T hd0 (ns_ne_list S.ns dl)
  refine wpAny_execs_cons ?_
  refine wpAny_Assign_Name ?_
  refine MethodCall_ ?_
  refine Constant_str ?_
  with_reducible refine GM.join ?_
  refine callM ?_
  refine args_cons ?_
  refine nm S.ns m2 ?_
  refine args_nil ?_
  have he0 : (Str.ofString "").length = 0 := by decide +kernel
  refine join_list (ys := ys) Dl (by simpa using hzi) (by rw [he0]; simp only [sumLen] at hs8; omega) fun t₂ tk₂ => ?_
  obtain ⟨x, hxe⟩ : ∃ x, x = Txt.join (Str.ofString "") ys := ⟨_, rfl⟩
  have hx : x.cps.toList = flat ys := by rw [hxe]; exact join_cps ys
  rw [← hxe]
  clear hxe
  refine st_storeX (X := XF L outer) S hX fun h₁ S₁ x₁ => ?_
  have dl₁ : h₁.IsList d vs.toArray := x₁.isList hdX dl
  refine wpAny_execs_cons ?_
  refine wpAny_For ?_
  refine Call_ ?_
  refine nmB G (S₁.inv I) rfl ?_
  refine PyProof.Rows.callWith_type1 ?_
  refine args_cons ?_
  refine wpAny_BinOp ?_
  refine Call_ ?_
  refine nmB G (S₁.inv I) rfl ?_
  refine PyProof.Rows.callWith_builtin1 ?_
  refine args_cons ?_
  refine nm S₁.ns m1 ?_
  refine args_nil ?_
  refine len_list dl₁ (by simp; omega) ?_
  refine wpAny_Constant_int ?_
  refine add_int ?_
  refine args_nil ?_
  rw [show ((vs.toArray.size : Nat) : Int) + 1 = ((ys.length + 1 : Nat) : Int) by simp [hvl]]
  refine call_range_1 ?_
  have hrs : Builtin.Range.rangeSize 0 ((ys.length + 1 : Nat) : Int) 1 = ((ys.length + 1 : Nat) : Int) := by
    rw [rangeSize_one]
    split <;> omega
  refine wpAny_pyIter_range (IsRange.new _ _ _ _ _ _ _) (range_small 0 (ys.length + 1) (by omega) (by omega)) ?_
  rw [hrs]
  rw [Heap.size_push]
  generalize hh₃ : (h₁.push _).push _ = h₃
  have k₃ : ∀ b o, h₁.get? b = some o → h₃.get? b = some o := fun b o e => by rw [← hh₃]; exact Heap.get?_push_of_some _ (Heap.get?_push_of_some _ e)
  obtain ⟨It, hIt⟩ : ∃ It, It = h₁.objs.size + 1 := ⟨_, rfl⟩
  have it₃ : IsRangeIter h₃ It 0 ((ys.length + 1 : Nat) : Int) 1 := by
    rw [← hh₃, hIt, ← Heap.size_push]
    exact Heap.get?_push_size _ rfl
  rw [← hIt]
  have fIt : h₁.get? It = none := Heap.get?_none_of_le (by rw [hIt]; exact Nat.le_succ _)
  clear hh₃ hIt
  have hIt0 : h₀.get? It = none := S₁.keep.none T fIt
  have hIL : It ≠ L := fun z => by
    obtain ⟨o, _, _, e, _⟩ := S₁.ns
    have e : h₁.get? L = some o := e
    rw [z] at fIt; rw [fIt] at e; cases e
  have hItX := notIn_new hF T hIt0 hIL
  have hId : d ≠ It := fun z => by
    obtain ⟨o, e, _⟩ := dl₁
    rw [z, fIt] at e; cases e
  have S₃ := S₁.keeps k₃
  refine codeAny_forLoop (fun k s' => ∃ i h' tk m', k = ys.length + 1 - i ∧ i ≤ ys.length + 1 ∧ s' = { s with heap := h', toks := tk } ∧ St (frs outer) h₀ L m' h' ∧ m' "due" = some (.ref d) ∧ m' "text" = some (.str x t₂) ∧ h'.IsList d vs.toArray ∧
    IsRangeIter h' It ((i : Nat) : Int) (((ys.length + 1 : Nat) : Int) - (i : Nat)) 1) ?_ (ys.length + 1)
    ⟨0, h₃, _, _, rfl, Nat.zero_le _, rfl, S₃, m1, rfl, dl₁.at fun o e => k₃ _ _ e, by simpa using it₃⟩
  rintro k s' ⟨i, h', tk, m', rfl, hi1, rfl, S', m1', m2', dl', it'⟩
  by_cases hend : i = ys.length + 1
  · subst hend
    refine wpAny_pyNext_range_end R.hd it' (by omega) fun h₄ x₄ => ?_
    have S₄ : St (frs outer) h₀ L m' h₄ := S'.ext hIt0 hIL x₄ (loose_rangeIter it')
    refine wpAny_execs_nil ?_
    refine wpAny_execs_cons ?_
    refine wpAny_Return_some ?_
    refine wpAny_Constant_bool ?_
    exact h h₄ _ S₄.keep
  · refine wpAny_pyNext_range_item it' (by omega) fun h₄ it₄ x₄ => ?_
    have S₄ : St (frs outer) h₀ L m' h₄ := S'.ext hIt0 hIL x₄.extBut (loose_rangeIter it')
    have dl₄ : h₄.IsList d vs.toArray := let ⟨o, e, z⟩ := dl'; ⟨o, x₄.extBut _ _ hId e, z⟩
    refine wpAny_assign_Name (st_storeX (s := { s with heap := h₄, toks := _ }) (X := XF L outer) S₄ hX fun h₅ S₅ x₅ => ?_)
    refine side_turn (s := { s with heap := h₅, toks := _ }) (n := n) (first := i) G R I T hF h88 S₅ m1' m2' rfl (x₅.isList hdX dl₄) hd0 hi hx hl hlen hyl (by omega) fun h₆ tk₆ m₆ S₆ a1 a2 x₆ => ?_
    refine ⟨ys.length + 1 - (i + 1), by omega, i + 1, h₆, tk₆, m₆, rfl, by omega, rfl, S₆, a1, a2, x₆.isList hdX (x₅.isList hdX dl₄), ?_⟩
    have it₆ : IsRangeIter h₆ It (((i : Nat) : Int) + 1) (((ys.length + 1 : Nat) : Int) - (i : Nat) - 1) 1 := x₆ _ _ hItX (x₅ _ _ hItX it₄)
    have e1 : ((i + 1 : Nat) : Int) = ((i : Nat) : Int) + 1 := by omega
    have e2 : ((ys.length + 1 : Nat) : Int) - ((i + 1 : Nat) : Int) = ((ys.length + 1 : Nat) : Int) - (i : Nat) - 1 := by omega
    rw [e2, e1]
    exact it₆
end
end
section
open PySem PySem.W PyProof.Rows PySem.Calls PySem.Builtin PySem.Builtin.Str PySem.StrLaws
set_option maxRecDepth 100000
def pRow (tag : Str) (row : Str × Str) : Bool := row.1.cps.toList == bl2.cps.toList || row.1.cps.toList == tag.cps.toList
def glue (row : Str × Str) : Str := row.1 ++ row.2
theorem slice_to (x : Str) (p : Nat) (hp : p ≤ x.length) : (Txt.slice x none (some (p : Int))).cps.toList = x.cps.toList.take p := by
  have : Txt.slice x none (some (p : Int)) = _ := sliceText_to (x := x) (j := (p : Int)) ⟨by omega, by rw [Array.length_toList]; show (p : Int) ≤ (x.length : Int); omega⟩
  rw [this]
  simp
theorem beq_str (a b : Str) : (a == b) = (b.cps.toList == a.cps.toList) := by
  by_cases h : a = b
  · subst h; simp
  · have h1 : (a == b) = false := by simpa using h
    rw [h1]
    symm
    simp only [beq_eq_false_iff_ne, ne_eq]
    exact fun z => h (str_ext z.symm)
theorem glue_parts (row : Str × Str) (h : row.1.length = 2) : Txt.slice (glue row) none (some 2) = row.1 ∧ fOf (glue row) = row.2 := by
  have hl : (glue row).length = 2 + row.2.length := by unfold glue; rw [Str.length_append, h]
  have hc : (glue row).cps.toList = row.1.cps.toList ++ row.2.cps.toList := cps_append _ _
  have h2 : row.1.cps.toList.length = 2 := by rw [Array.length_toList]; exact h
  refine ⟨str_ext ?_, str_ext ?_⟩
  · have := slice_to (glue row) 2 (by omega)
    rw [hc, List.take_append_of_le_length (by omega), List.take_of_length_le (by omega)] at this
    exact this
  · have := slice_from (glue row) 2 (by omega)
    rw [hc, List.drop_append_of_le_length (by omega), List.drop_of_length_le (by omega), List.nil_append] at this
    exact this
theorem due_side (tag : Str) : ∀ (rows : List (Str × Str)), (∀ r ∈ rows, r.1.length = 2) → ((rows.map glue).filter (pOf tag)).map fOf = (rows.filter (pRow tag)).map (·.2)
  | [], _ => rfl
  | r :: rows, h => by
    obtain ⟨h1, h2⟩ := glue_parts r (h r (List.mem_cons_self ..))
    have ih := due_side tag rows fun x hx => h x (List.mem_cons_of_mem _ hx)
    have hp : pOf tag (glue r) = pRow tag r := by unfold pOf pRow; rw [h1, beq_str, beq_str]
    rw [List.map_cons, List.filter_cons, List.filter_cons, hp]
    split
    · rw [List.map_cons, List.map_cons, ih, h2]
    · exact ih
theorem cell_own (L : Addr) : (evS L).cells.lookup (Str.ofString "own") = some (L + 1) := rfl
section
variable {w : World} {A : Around} {E : Value → Shared → Prop} {s : Shared} {mg mb : Str → Option Value} {outer : List Env}
set_option maxHeartbeats 4000000 in
theorem side_spec {n which : Nat} {r : Addr} {hx : Heap} {vs : List Value} {rows : List (Str × Str)} {u : Tok} {Q : Value → Shared → Prop} (G : Gl mg mb) (R : Rm (n + 7) A outer) (I : Inv w mg mb s.heap) (T : Tab s.heap) (hF : s.heap.FunFrames {} outer)
    (hw : which = 1 ∨ which = 2) (rl : s.heap.IsList r vs.toArray) (ra : RowsAll hx s.heap vs rows) (hg : GoodRows rows)
    (h : ∀ s', Keep (frs outer) s.heap s'.heap → s'.drawn = s.drawn → s'.os = s.os → Kg s.gens s'.gens → Q (.bool true) s') :
    wpAny (model P0 w) A (call (.ref 124) [.ref r, .int (which : Int) u]) Q E s := by
  refine enterC (i := 18) (c := 123) (binds := [("rows", .ref r), ("which", .int (which : Int) u)]) R I (by decide) (fun pm => by rfl) (fun L x hx => ?_) fun L h₁ tk₁ hL hLs S hcell R' => ?_
  · simp only [List.mem_cons, List.not_mem_nil, or_false] at hx
    rcases hx with rfl | rfl
    · exact .inl rfl
    · exact .inl rfl
  have co : h₁.IsCell (L + 1) none := hcell "own" _ (cell_own L)
  have hX : (evS L).locals ∈ XF L outer := by show L ∈ XF L outer; simp
  have n1 : s.heap.get? (L + 1) = none := Heap.get?_none_of_le (by rw [hLs]; exact Nat.le_succ _)
  have h88 := R.ne
  have rl₁ : h₁.IsList r vs.toArray := S.keep.isList rl (list_not88 T rl)
  have ra₁ : RowsAll hx h₁ vs rows := ra.kept fun a x t y u _ l => S.keep.isList l (list_not88 T l)
  refine wpAny_execs_cons ?_
  refine wpAny_Assign_Name ?_
  refine Subscript_ ?_
  refine List_ ?_
  refine args_cons ?_
  refine Constant_str ?_
  refine args_cons ?_
  refine Constant_str ?_
  refine args_nil ?_
  refine new_listS S T (fun h₂ a S₂ k₂ p₂ n₂ f₂ => ?_) hz2
  refine wpAny_BinOp ?_
  refine nm S₂.ns rfl ?_
  refine wpAny_Constant_int ?_
  refine sub_int ?_
  obtain ⟨to, hto⟩ : ∃ t, [Value.str (Str.ofString "- ") tk₁, .str (Str.ofString "+ ") (tk₁ + 1)].toArray[((which : Int) - 1).toNat]? = some (.str (tagOf which) t) := by
    rcases hw with rfl | rfl
    · exact ⟨_, rfl⟩
    · exact ⟨_, rfl⟩
  refine item_listR p₂.isList (by omega) (by omega) hto ?_
  have co₂ : h₂.IsCell (L + 1) none := co.keeps k₂
  refine wpAny_storeName_cell (s := { s with heap := h₂, toks := _ }) (env := evS L) (c := L + 1) rfl rfl (cell_own L) co₂ fun h₃ co₃ x₃ => ?_
  have S₃ := S₂.ext n1 (succ_ne L) x₃.extBut (loose_cell co₂)
  have lne : ∀ {b : Addr} {items : Array Value}, h₂.IsList b items → b ≠ L + 1 := fun l z => by
    subst z
    obtain ⟨o, e, _, n, d⟩ := l
    obtain ⟨o', e', d'⟩ := co₂
    obtain rfl := Option.some.inj (e.symm.trans e')
    rw [d] at d'; cases d'
  have lkeep : ∀ {b : Addr} {items : Array Value}, h₁.IsList b items → h₃.IsList b items := fun l => by
    have l₂ := l.at fun o e => k₂ _ _ e
    obtain ⟨o, e, z⟩ := l₂
    exact ⟨o, x₃.extBut _ _ (lne ⟨o, e, z⟩) e, z⟩
  have rl₃ := lkeep rl₁
  have ra₃ : RowsAll hx h₃ vs rows := ra₁.kept fun a x t y u _ l => lkeep l
  refine wpAny_execs_cons ?_
  refine pc_Assign (cl := [(Str.ofString "own", L + 1)]) (pRow (tagOf which)) (·.2) rfl rfl (by decide) rfl (by decide) rfl rfl (by decide) rfl rfl R'.hd ?_
  refine nm (s := { s with heap := h₃, toks := _ }) (env := evS L) S₃.ns rfl ?_
  refine ⟨r, vs, rows, hx, _, rfl, S₃.ns, rl₃, ra₃, by have := hg.len; omega, fun o It hIt => ⟨⟨?_, ?_⟩, ?_⟩⟩
  · intro C s₄ m₄ row ta tb E' hrow hn₄ ma mb' hk₄
    have co₄ : s₄.heap.IsCell (L + 1) (some (.str (tagOf which) to)) := by
      obtain ⟨o', e', d'⟩ := co₃
      refine ⟨o', hk₄ _ _ (fun z => ?_) (Heap.get?_push_of_some _ e'), d'⟩
      have := Heap.lt_size e'
      rw [z, hIt] at this
      exact Nat.lt_irrefl _ this
    refine wpAny_tests_one ?_
    refine isTrue_or ?_
    refine wpAny_isTrue_Compare1 ?_
    refine wpAny_Name (wpAny_loadName_local rfl rfl hn₄ ma ?_) (by decide)
    refine Constant_str ?_
    refine P.eq_str ?_
    refine wpAny_truthy_bool ?_
    by_cases hb : row.1.cps.toList == bl2.cps.toList
    · refine PySem.W.ite_pos hb ?_
      exact ⟨by unfold pRow; rw [hb]; rfl, _, rfl⟩
    · refine PySem.W.ite_neg hb ?_
      refine isTrue_or ?_
      refine wpAny_isTrue_Compare1 ?_
      refine wpAny_Name (wpAny_loadName_local rfl rfl hn₄ ma ?_) (by decide)
      refine wpAny_Name (wpAny_loadName_cell (c := L + 1) rfl rfl rfl co₄ ?_) (by decide)
      refine P.eq_str ?_
      refine wpAny_truthy_bool ?_
      have hb' : (row.1.cps.toList == bl2.cps.toList) = false := by simpa using hb
      by_cases hc : row.1.cps.toList == (tagOf which).cps.toList
      · refine PySem.W.ite_pos hc ?_
        exact ⟨by unfold pRow; rw [hb', hc]; rfl, _, rfl⟩
      · refine PySem.W.ite_neg hc ?_
        refine isTrue_or_nil ?_
        have hc' : (row.1.cps.toList == (tagOf which).cps.toList) = false := by simpa using hc
        exact ⟨by unfold pRow; rw [hb', hc']; rfl, _, rfl⟩
  · intro C s₄ m₄ row ta tb E' hrow hn₄ ma mb' hk₄
    refine wpAny_Name (wpAny_loadName_local rfl rfl hn₄ mb' ?_) (by decide)
    exact ⟨tb, _, rfl, rfl⟩
  intro d h₅ tk₅ zs hd hp₅ hst₅ hn₅ hk₅
  have S₅ : St (frs outer) s.heap L _ h₅ := ⟨hn₅, S₃.keep.ext S₃.new (fun b o q e => hk₅ b o q e) (loose_ns S₃.ns), S₃.new, S₃.ne⟩
  have rl₅ : h₅.IsList r vs.toArray := let ⟨o, e, z⟩ := rl₃; ⟨o, hk₅ _ _ (ns_ne_list S₃.ns ⟨o, e, z⟩) e, z⟩
  have ra₅ : RowsAll hx h₅ vs rows := ra₃.kept fun a x t y u _ ⟨o, e, z⟩ => ⟨o, hk₅ _ _ (ns_ne_list S₃.ns ⟨o, e, z⟩) e, z⟩
  have hd0 : s.heap.get? d = none := S₃.keep.none T hd
  refine wpAny_execs_cons ?_
  refine wpAny_Assign_Name ?_
  refine Call_ ?_
  refine nmB (s := { s with heap := h₅, toks := tk₅ }) G (S₅.inv I) rfl ?_
  refine PyProof.Rows.callWith_type1 ?_
  refine args_cons ?_
  refine Call_ ?_
  refine nmG (s := { s with heap := h₅, toks := tk₅ }) G (S₅.inv I) rfl ?_
  refine callF ?_
  refine args_cons ?_
  refine pc_ListComp (cl := []) (fun _ => true) glue rfl (by decide) rfl (by decide) rfl rfl (by decide) R'.hd ?_
  refine nm (s := { s with heap := h₅, toks := tk₅ }) (env := evS L) S₅.ns rfl ?_
  refine ⟨r, vs, rows, hx, rfl, rl₅, ra₅, by have := hg.len; omega, fun o It hIt => ⟨⟨?_, ?_⟩, ?_⟩⟩
  · intro C s₄ m₄ row ta tb E' hrow hn₄ ma mb' hk₄
    refine wpAny_tests_nil ?_
    exact ⟨rfl, _, rfl⟩
  · intro C s₄ m₄ row ta tb E' hrow hn₄ ma mb' hk₄
    refine wpAny_BinOp ?_
    refine wpAny_Name (wpAny_loadName_local rfl rfl hn₄ ma ?_) (by decide)
    refine wpAny_Name (wpAny_loadName_local rfl rfl hn₄ mb' ?_) (by decide)
    have hr2 := hg.all row hrow
    refine PyProof.Rows.add_str (fun t₇ tk₇ => ?_) (by rw [sizeLine_eq]; omega)
    exact ⟨t₇, tk₇, rfl, rfl⟩
  intro dl h₆ tk₆ ls hdl hp₆ hst₆ hk₆
  rw [List.filter_eq_self.mpr (fun _ _ => rfl)] at hst₆
  have S₆ := S₅.keeps hk₆
  refine args_cons ?_
  refine nm (s := { s with heap := h₆, toks := tk₆ }) (env := evS L) S₆.ns rfl ?_
  refine args_nil ⟨(S₆.inv I).isFn (i := 13) (c := 99) (by decide), ?_⟩
  have hll : ∀ x ∈ rows.map glue, x.length ≤ 1000 := fun x hxm => by
    obtain ⟨row, hr, rfl⟩ := List.mem_map.mp hxm
    have := hg.all row hr
    unfold glue
    rw [Str.length_append]; omega
  refine wpAny_mono (restore_list (s := { s with heap := h₆, toks := tk₆ }) (n := n + 5) G R' (S₆.inv I) hst₆ hll (by rw [List.length_map]; have := hg.len; omega) hw hp₆.isList fun s₇ D nD zs₇ k₇ hdr hos hkg hD7 hD₇ hz₇ => ?_) (fun v s₁ hh => args_nil hh) fun _ _ e => e
  rw [due_side _ rows fun r hr => (hg.all r hr).1] at hz₇
  obtain ⟨ys, hys⟩ : ∃ ys, ys = (rows.filter (pRow (tagOf which))).map (·.2) := ⟨_, rfl⟩
  rw [← hys] at hz₇ hst₅
  have hyl : ys.length ≤ 9 := by
    rw [hys, List.length_map]
    exact Nat.le_trans (List.length_filter_le _ _) hg.len
  have hlen : ∀ b ∈ ys, b.length ≤ 8 := fun b hb => by
    rw [hys] at hb
    obtain ⟨row, hr, rfl⟩ := List.mem_map.mp hb
    exact (hg.all row (List.mem_filter.mp hr).1).2
  have hlines : Lines ys := by
    rw [hys]
    exact lines_sub (List.Sublist.map _ List.filter_sublist) hg.lines
  have S₇ := S₆.keeps k₇
  refine st_storeX (s := s₇) (env := evS L) (X := XF L outer) S₇ hX fun h₈ S₈ x₈ => ?_
  have dl₅ := hp₅.isList
  have hdX : d ∉ XF L outer := notIn_new hF T hd0 (ns_ne_list S₅.ns dl₅)
  have dl₈ : h₈.IsList d zs.toArray := x₈.isList hdX ((dl₅.at fun o e => hk₆ _ _ e).at fun o e => k₇ _ _ e)
  have hD0 : s.heap.get? D = none := S₆.keep.none T hD7
  have Dl₇ : s₇.heap.IsList D zs₇.toList.toArray := ⟨_, by simpa using hD₇, rfl, nD, rfl⟩
  have hDX : D ∉ XF L outer := notIn_new hF T hD0 (ns_ne_list S₇.ns Dl₇)
  have Dl₈ : h₈.IsList D zs₇.toList.toArray := x₈.isList hDX Dl₇
  refine wpAny_execs_cons ?_
  refine wpAny_If ?_
  refine wpAny_isTrue_Compare1 ?_
  refine nm (s := { s₇ with heap := h₈, toks := _ }) (env := evS L) S₈.ns rfl ?_
  refine nm (s := { s₇ with heap := h₈, toks := _ }) (env := evS L) S₈.ns rfl ?_
  have hu : (A.deeper (evS L)).units < cLine := by have h1 : (A.deeper (evS L)).units + 10 * (n + 6) ≤ 9000 := R'.un; have := cLine_big; omega
  have hl1 := hz₇.length
  have hl2 := hst₅.length
  refine SeqAt.RcNeAt.lists (s := { s₇ with heap := h₈, toks := _ }) (e := fun _ => true) Dl₈ dl₈ (by rw [List.size_toArray, List.size_toArray, hl1, hl2]) hu (fun j h1 h2 => ?_) P0 w _ _ ?_
  · have hj : j < ys.length := by rw [List.size_toArray, hl1] at h1; exact h1
    obtain ⟨ta, ea⟩ := strsAre_at hz₇ (List.getElem?_eq_getElem hj)
    obtain ⟨tb, eb⟩ := strsAre_at hst₅ (List.getElem?_eq_getElem hj)
    have ea' : zs₇.toList.toArray[j] = .str ys[j] ta := by
      have : zs₇.toList.toArray[j]? = some (.str ys[j] ta) := by simpa using ea
      rw [Array.getElem?_eq_getElem h1] at this
      exact Option.some.inj this
    have eb' : zs.toArray[j] = .str ys[j] tb := by
      have : zs.toArray[j]? = some (.str ys[j] tb) := by simpa using eb
      rw [Array.getElem?_eq_getElem h2] at this
      exact Option.some.inj this
    rw [ea', eb']
    have := (eqGives_str ys[j] ys[j] ta tb).at (A.deeper (evS L)).in1 { s₇ with heap := h₈, toks := s₇.toks + 1 }
    rw [show (ys[j] == ys[j]) = true by simp] at this
    exact this
  refine wpAny_truthy_bool ?_
  refine PySem.W.ite_neg (by simp) ?_
  refine wpAny_execs_nil ?_
  refine side_rest (s := { s₇ with heap := h₈, toks := _ }) (n := n) G R' I T hF h88 S₈ rfl rfl dl₈ hd0 hst₅ Dl₈ hz₇ hlines hlen hyl fun h₉ tk₉ kp₉ => ?_
  exact h _ kp₉ hdr hos hkg
end
end
section
open PySem PySem.W PyProof.Rows PySem.Calls PySem.Builtin PySem.Builtin.Str PySem.StrLaws
set_option maxRecDepth 100000
section
variable {w : World} {A : Around} {E : Value → Shared → Prop} {s : Shared} {mg mb : Str → Option Value} {outer : List Env}
set_option maxHeartbeats 4000000 in
theorem law_spec {n : Nat} {sc : Addr} {items : Array Value} {Q : Value → Shared → Prop} (G : Gl mg mb) (R : Rm (n + 8) A outer) (I : Inv w mg mb s.heap) (T : Tab s.heap) (hF : s.heap.FunFrames {} outer)
    (hsc : s.heap.IsList sc items) (hsf : sc ∉ frs outer) (hall : AllInts items) (hsz : items.size ≤ 63)
    (h : ∀ s', Keep (frs outer) s.heap s'.heap → s'.drawn = s.drawn → s'.os = s.os → Kg s.gens s'.gens → Q (.bool true) s') :
    wpAny (model P0 w) A (call (.ref 131) [.ref sc]) Q E s := by
  refine enter (i := 19) (c := 130) (binds := [("script", .ref sc)]) R I (by decide) (fun pm => by rfl) (by exact locs rfl) fun L h₁ hL S R' => ?_
  have hFr : ∀ (m : Str → Option Value) h₂, St (frs outer) s.heap L m h₂ → h₂.FunFrames {} (ev 19 L 131 130 :: outer) := fun m h₂ S₂ => frames_in (i := 19) (a := 131) (c := 130) hF S₂ R.ne rfl
  have hsc₁ : h₁.IsList sc items := S.keep.isList hsc (list_not88 T hsc)
  have hsF : sc ∉ frs (ev 19 L 131 130 :: outer) := fun z => by
    rw [frs_cons (L := L) rfl] at z
    rcases List.mem_cons.mp z with z | z
    · obtain ⟨o, e, _⟩ := hsc
      rw [z, S.new] at e; cases e
    · exact hsf z
  refine wpAny_execs_cons ?_
  refine wpAny_Assign_Name ?_
  refine Call_ ?_
  refine nmG G (S.inv I) rfl ?_
  refine callF ?_
  refine args_cons ?_
  refine nm S.ns rfl ?_
  refine args_nil ⟨(S.inv I).isFn (i := 15) (c := 106) (by decide), ?_⟩
  refine rows_spec (n := n + 6) G R' (S.inv I) (S.keep.2 T) (hFr _ _ S) hsc₁ hsF hall hsz fun h₂ tk₂ r vs rows hg hr rl ra kp => ?_
  have S₂ := S.on' (L := L) kp
  refine st_storeX (X := [L]) S₂ (List.mem_singleton.mpr rfl) fun h₃ S₃ x₃ => ?_
  have lk : ∀ {b : Addr} {its : Array Value}, h₂.IsList b its → h₃.IsList b its := fun l => x₃.isList (fun z => ns_ne_list S₂.ns l (List.mem_singleton.mp z)) l
  have rl₃ := lk rl
  have ra₃ : RowsAll h₁ h₃ vs rows := ra.kept fun a x t y u _ l => lk l
  have T₃ := S₃.keep.2 T
  refine wpAny_execs_cons ?_
  refine wpAny_Return_some ?_
  refine BoolOp_and ?_
  refine Call_ ?_
  refine nmG G (S₃.inv I) rfl ?_
  refine callF ?_
  refine args_cons ?_
  refine nm S₃.ns rfl ?_
  refine args_cons ?_
  refine wpAny_Constant_int ?_
  refine args_nil ⟨(S₃.inv I).isFn (i := 18) (c := 123) (by decide), ?_⟩
  refine side_spec (which := 1) (n := n) G R' (S₃.inv I) T₃ (hFr _ _ S₃) (.inl rfl) rl₃ ra₃ hg fun s₄ kp₄ hd₄ ho₄ hg₄ => ?_
  have S₄ := S₃.on' (L := L) kp₄
  have rl₄ : s₄.heap.IsList r vs.toArray := kp₄.isList rl₃ (list_not88 T₃ rl₃)
  have ra₄ : RowsAll h₁ s₄.heap vs rows := ra₃.kept fun a x t y u _ l => kp₄.isList l (list_not88 T₃ l)
  refine wpAny_truthy_bool ?_
  refine PySem.W.ite_pos rfl ?_
  refine BoolOp_one ?_
  refine Call_ ?_
  refine nmG (s := s₄) G (S₄.inv I) rfl ?_
  refine callF ?_
  refine args_cons ?_
  refine nm (s := s₄) (env := ev 19 L 131 130) S₄.ns rfl ?_
  refine args_cons ?_
  refine wpAny_Constant_int ?_
  refine args_nil ⟨(S₄.inv I).isFn (i := 18) (c := 123) (by decide), ?_⟩
  refine side_spec (s := { s₄ with toks := _ }) (which := 2) (n := n) G R' (S₄.inv I) (S₄.keep.2 T) (hFr _ _ S₄) (.inr rfl) rl₄ ra₄ hg fun s₅ kp₅ hd₅ ho₅ hg₅ => ?_
  have S₅ := S₄.on' (L := L) kp₅
  exact h s₅ S₅.keep (hd₅.trans hd₄) (ho₅.trans ho₄) (hg₄.trans hg₅)
end
end
section
open PySem PySem.W PyProof.Rows PySem.Calls
set_option maxRecDepth 100000
def lcg (m i : Nat) : Nat := (i * 5 + 1) % (m + 1)
def itr (m : Nat) : Nat → Nat → Nat
  | 0, i => i
  | t + 1, i => itr m t (lcg m i)
theorem itr_add (m : Nat) : ∀ (a b i : Nat), itr m (a + b) i = itr m b (itr m a i)
  | 0, b, i => by rw [Nat.zero_add]; rfl
  | a + 1, b, i => by rw [show a + 1 + b = a + b + 1 by omega]; exact itr_add m a b _
/-- every place is met from nought, and nought again -/
def Full5 (m : Nat) : Prop := (∀ j, j < m + 1 → ∃ t, t < m + 1 ∧ itr m t 0 = j) ∧ itr m (m + 1) 0 = 0
theorem full_of {m : Nat} (h : ((List.range (m + 1)).all (fun j => (List.range (m + 1)).any fun t => itr m t 0 == j) && (itr m (m + 1) 0 == 0)) = true) : Full5 m := by
  obtain ⟨h1, h2⟩ := Bool.and_eq_true_iff.mp h
  refine ⟨fun j hj => ?_, eq_of_beq h2⟩
  have := List.all_eq_true.mp h1 j (List.mem_range.mpr hj)
  obtain ⟨t, ht, e⟩ := List.any_eq_true.mp this
  exact ⟨t, List.mem_range.mp ht, eq_of_beq e⟩
theorem full7 : Full5 7 := full_of (by decide +kernel)
theorem full127 : Full5 127 := full_of (by decide +kernel)
theorem Full5.from {m : Nat} (h : Full5 m) (i j : Nat) (hi : i < m + 1) (hj : j < m + 1) : ∃ t, t < m + 1 ∧ itr m t i = j := by
  obtain ⟨a, ha, rfl⟩ := h.1 i hi
  obtain ⟨b, hb, rfl⟩ := h.1 j hj
  by_cases q : a ≤ b
  · exact ⟨b - a, by omega, by rw [← itr_add]; congr 1; omega⟩
  · refine ⟨b + (m + 1) - a, by omega, ?_⟩
    rw [← itr_add, show a + (b + (m + 1) - a) = (m + 1) + b by omega, itr_add, h.2]
def lps (m : Nat) : Nat → Nat × Nat → Nat × Nat
  | 0, x => x
  | t + 1, x => lps m t (SetTable.leap m x.1 x.2)
theorem lps_add (m : Nat) : ∀ (a b : Nat) (x : Nat × Nat), lps m (a + b) x = lps m b (lps m a x)
  | 0, b, x => by rw [Nat.zero_add]; rfl
  | a + 1, b, x => by rw [show a + 1 + b = a + b + 1 by omega]; exact lps_add m a b _
theorem lps_snd (m : Nat) : ∀ (t : Nat) (x : Nat × Nat), (lps m t x).2 = x.2 / 32 ^ t
  | 0, x => by simp [lps]
  | t + 1, x => by
    show (lps m t (SetTable.leap m x.1 x.2)).2 = _
    rw [lps_snd m t]
    show x.2 / 32 / 32 ^ t = _
    rw [Nat.div_div_eq_div_mul, Nat.pow_succ, Nat.mul_comm]
theorem lps_zero (m : Nat) : ∀ (t i : Nat), lps m t (i, 0) = (itr m t i, 0)
  | 0, i => rfl
  | t + 1, i => by
    show lps m t (SetTable.leap m i 0) = _
    have : SetTable.leap m i 0 = (lcg m i, 0) := by unfold SetTable.leap lcg; simp
    rw [this]
    exact lps_zero m t _
theorem lps_lt (m : Nat) : ∀ (t : Nat) (x : Nat × Nat), x.1 < m + 1 → (lps m t x).1 < m + 1
  | 0, x, h => h
  | t + 1, x, h => lps_lt m t _ (by show (x.1 * 5 + 1 + x.2 / 32) % (m + 1) < m + 1; exact Nat.mod_lt _ (Nat.succ_pos _))
theorem free_none {m : Nat} {owner : Array (Option Nat)} : ∀ (fuel i p : Nat), SetTable.layClean.free m owner fuel i p = none → ∀ t, t < fuel → (owner.getD (lps m t (i, p)).1 (some 0)).isNone = false
  | 0, i, p, h, t, ht => absurd ht (Nat.not_lt_zero _)
  | fuel + 1, i, p, h, t, ht => by
    unfold SetTable.layClean.free at h
    cases hf : (List.range (SetTable.runEnd m i + 1 - i)).find? fun k => (owner.getD (i + k) (some 0)).isNone with
    | some k => rw [hf] at h; cases h
    | none =>
      rw [hf] at h
      cases t with
      | zero =>
        have h0 : 0 ∈ List.range (SetTable.runEnd m i + 1 - i) := List.mem_range.mpr (by unfold SetTable.runEnd; split <;> omega)
        have h2 : ¬ (owner.getD (i + 0) (some 0)).isNone = true := List.find?_eq_none.mp hf 0 h0
        rw [Nat.add_zero] at h2
        show (owner.getD i (some 0)).isNone = false
        simpa only [Bool.not_eq_true] using h2
      | succ t => exact free_none fuel _ _ h t (by omega)
theorem free_some {m : Nat} {owner : Array (Option Nat)} : ∀ (fuel i p j : Nat), SetTable.layClean.free m owner fuel i p = some j → (owner.getD j (some 0)).isNone = true
  | 0, i, p, j, h => by cases h
  | fuel + 1, i, p, j, h => by
    unfold SetTable.layClean.free at h
    cases hf : (List.range (SetTable.runEnd m i + 1 - i)).find? fun k => (owner.getD (i + k) (some 0)).isNone with
    | some k =>
      rw [hf] at h
      cases h
      have h2 := List.find?_some (p := fun k => (owner.getD (i + k) (some 0)).isNone) hf
      exact h2
    | none => rw [hf] at h; exact free_some fuel _ _ j h
theorem bits_lt (h : Int) : SetTable.bits h < 2 ^ 64 := by
  unfold SetTable.bits
  have h1 : 0 ≤ h % (2 ^ 64 : Int) := Int.emod_nonneg _ (by decide)
  have h2 : h % (2 ^ 64 : Int) < 2 ^ 64 := Int.emod_lt_of_pos _ (by decide)
  omega
theorem free_ok {m : Nat} (hm : Full5 m) {owner : Array (Option Nat)} {j₀ : Nat} (hj : j₀ < m + 1) (hn : (owner.getD j₀ (some 0)).isNone = true) (h : Int) :
    ∃ j, SetTable.layClean.free m owner (SetTable.turns m) (SetTable.bits h % (m + 1)) (SetTable.bits h) = some j ∧ (owner.getD j (some 0)).isNone = true := by
  cases hf : SetTable.layClean.free m owner (SetTable.turns m) (SetTable.bits h % (m + 1)) (SetTable.bits h) with
  | some j => exact ⟨j, rfl, free_some _ _ _ _ hf⟩
  | none =>
    exfalso
    have key := free_none _ _ _ hf
    have h0 : SetTable.bits h % (m + 1) < m + 1 := Nat.mod_lt _ (Nat.succ_pos _)
    have hz : (lps m 13 (SetTable.bits h % (m + 1), SetTable.bits h)).2 = 0 := by
      rw [lps_snd]
      refine Nat.div_eq_of_lt (Nat.lt_trans (bits_lt h) (by decide))
    have hl := lps_lt m 13 (SetTable.bits h % (m + 1), SetTable.bits h) h0
    obtain ⟨t, ht, e⟩ := hm.from _ j₀ hl hj
    have := key (13 + t) (by unfold SetTable.turns; omega)
    rw [lps_add, show lps m 13 (SetTable.bits h % (m + 1), SetTable.bits h) = ((lps m 13 (SetTable.bits h % (m + 1), SetTable.bits h)).1, 0) from Prod.ext rfl hz, lps_zero, e] at this
    rw [hn] at this
    cases this
end
section
open PySem PySem.W PyProof.Rows PySem.Calls
set_option maxRecDepth 100000
theorem fm_congr {α β : Type} {f g : α → Option β} : ∀ {l : List α}, (∀ a ∈ l, f a = g a) → l.filterMap f = l.filterMap g
  | [], _ => rfl
  | a :: l, h => by rw [List.filterMap_cons, List.filterMap_cons, h a (List.mem_cons_self ..), fm_congr fun b hb => h b (List.mem_cons_of_mem _ hb)]
def occ (m : Nat) (owner : Array (Option Nat)) : List Nat := (List.range (m + 1)).filterMap fun j => owner.getD j none
theorem occ_set {m : Nat} {owner : Array (Option Nat)} {j k : Nat} (hs : owner.size = m + 1) (hj : (owner.getD j (some 0)).isNone = true) :
    j < m + 1 ∧ (occ m (owner.setIfInBounds j (some k))).Perm (k :: occ m owner) := by
  have hjl : j < owner.size := by
    rcases Nat.lt_or_ge j owner.size with h | h
    · exact h
    · rw [Array.getD_eq_getD_getElem?, Array.getElem?_eq_none h] at hj; cases hj
  have hjn : owner[j]? = some none := by
    rw [Array.getD_eq_getD_getElem?, Array.getElem?_eq_getElem hjl] at hj
    rw [Array.getElem?_eq_getElem hjl]
    simpa using hj
  refine ⟨by omega, ?_⟩
  have hr : List.range (m + 1) = List.range j ++ j :: List.range' (j + 1) (m - j) := by
    rw [List.range_eq_range', List.range_eq_range', show m + 1 = j + (m + 1 - j) by omega, ← List.range'_append_1, show m + 1 - j = (m - j) + 1 by omega, List.range'_succ]
    simp
  have e1 : ∀ l : List Nat, j ∉ l → l.filterMap (fun i => (owner.setIfInBounds j (some k)).getD i none) = l.filterMap fun i => owner.getD i none := by
    intro l hl
    refine fm_congr fun i hi => ?_
    have : i ≠ j := fun z => hl (z ▸ hi)
    rw [Array.getD_eq_getD_getElem?, Array.getD_eq_getD_getElem?, Array.getElem?_setIfInBounds, if_neg (Ne.symm this)]
  have e2 : (owner.setIfInBounds j (some k)).getD j none = some k := by
    rw [Array.getD_eq_getD_getElem?, Array.getElem?_setIfInBounds, if_pos rfl, if_pos hjl]; rfl
  have e3 : owner.getD j none = none := by rw [Array.getD_eq_getD_getElem?, hjn]; rfl
  unfold occ
  rw [hr, List.filterMap_append, List.filterMap_append, List.filterMap_cons, List.filterMap_cons, e2, e3, e1 _ (by simp), e1 _ (by simp [List.mem_range']; intro x _; omega)]
  exact List.perm_middle
theorem occ_room {m : Nat} {owner : Array (Option Nat)} {k : Nat} (hs : owner.size = m + 1) (hp : (occ m owner).Perm (List.range k)) (hk : k < m + 1) : ∃ j, j < m + 1 ∧ (owner.getD j (some 0)).isNone = true := by
  by_cases h : ∃ j, j < m + 1 ∧ (owner.getD j (some 0)).isNone = true
  · exact h
  · exfalso
    have hall : ∀ j ∈ List.range (m + 1), (owner.getD j none).isSome = true := fun j hj => by
      have hj := List.mem_range.mp hj
      have : ¬ (owner.getD j (some 0)).isNone = true := fun z => h ⟨j, hj, z⟩
      rw [Array.getD_eq_getD_getElem?, Array.getElem?_eq_getElem (by omega)] at this ⊢
      simp only [Option.getD_some] at this ⊢
      cases ho : owner[j] with
      | none => rw [ho] at this; exact absurd rfl this
      | some _ => rfl
    have : (occ m owner).length = m + 1 := by
      unfold occ
      rw [List.filterMap_length_eq_length.mpr hall, List.length_range]
    rw [hp.length_eq, List.length_range] at this
    omega
theorem lay_fold {m : Nat} (hm : Full5 m) : ∀ (l : List Int) (owner : Array (Option Nat)) (k : Nat), owner.size = m + 1 → (occ m owner).Perm (List.range k) → k + l.length ≤ m + 1 →
    ∃ owner', (l.foldl (fun (acc : Option (Array (Option Nat) × Nat)) h => do
      let (owner, k) ← acc
      let j ← SetTable.layClean.free m owner (SetTable.turns m) (SetTable.bits h % (m + 1)) (SetTable.bits h)
      pure (owner.setIfInBounds j (some k), k + 1)) (some (owner, k))) = some (owner', k + l.length) ∧ owner'.size = m + 1 ∧ (occ m owner').Perm (List.range (k + l.length))
  | [], owner, k, hs, hp, hk => ⟨owner, rfl, hs, hp⟩
  | h :: l, owner, k, hs, hp, hk => by
    rw [List.length_cons] at hk
    obtain ⟨j₀, hj₀, hn⟩ := occ_room hs hp (by omega)
    obtain ⟨j, hf, hj⟩ := free_ok hm hj₀ hn h
    obtain ⟨hjm, hperm⟩ := occ_set (k := k) hs hj
    obtain ⟨owner', e, hs', hp'⟩ := lay_fold hm l (owner.setIfInBounds j (some k)) (k + 1) (by simp [hs]) (hperm.trans ((hp.cons k).trans (by rw [List.range_succ]; exact (List.perm_append_singleton k _).symm))) (by omega)
    refine ⟨owner', ?_, hs', ?_⟩
    · rw [List.foldl_cons]
      show List.foldl _ (Option.bind (some (owner, k)) _) l = _
      simp only [Option.bind_some, hf]
      rw [show k + (h :: l).length = k + 1 + l.length by rw [List.length_cons]; omega]
      exact e
    · rw [show k + (h :: l).length = k + 1 + l.length by rw [List.length_cons]; omega]
      exact hp'
theorem laid_ok {m : Nat} (hm : Full5 m) (finger moves : Nat) (led plain : Bool) (hashes : Array Int) (hn : hashes.size ≤ m) :
    ∃ t order, SetTable.laid m finger moves led plain hashes = some (t, order) ∧ order.toList.Perm (List.range hashes.size) ∧ t.mask = m ∧ t.place.size = hashes.size ∧ t.dummies = #[] := by
  obtain ⟨owner, e, hs, hp⟩ := lay_fold hm hashes.toList (Array.replicate (m + 1) none) 0 (by simp) (by
    have : occ m (Array.replicate (m + 1) none) = [] := by
      unfold occ
      rw [List.filterMap_eq_nil_iff]
      intro j hj
      rw [Array.getD_eq_getD_getElem?, Array.getElem?_replicate]
      split <;> rfl
    rw [this]; exact .refl _) (by simp; omega)
  have e2 : SetTable.layClean m hashes = some owner := by
    unfold SetTable.layClean
    rw [← Array.foldl_toList, e]
    rfl
  rw [Nat.zero_add, Array.length_toList] at hp
  have e3 : ∀ l : List Nat, (l.filterMap fun j => (owner.getD j none).map (j, ·)).map (·.2) = l.filterMap fun j => owner.getD j none := by
    intro l
    rw [List.map_filterMap]
    refine fm_congr fun j _ => ?_
    cases owner.getD j none <;> rfl
  have hlen : ((List.range (m + 1)).filterMap fun j => (owner.getD j none).map (j, ·)).length = hashes.size := by
    have := hp.length_eq
    rw [List.length_range] at this
    rw [← this]
    unfold occ
    rw [← e3, List.length_map]
  refine ⟨{ mask := m, place := (((List.range (m + 1)).filterMap fun j => (owner.getD j none).map (j, ·)).map (·.1)).toArray, dummies := #[], finger, led, moves, plain },
    (((List.range (m + 1)).filterMap fun j => (owner.getD j none).map (j, ·)).map (·.2)).toArray, ?_, ?_, rfl, ?_, rfl⟩
  · unfold SetTable.laid
    rw [e2]
    rfl
  · rw [List.toList_toArray, e3]
    exact hp
  · show (List.map _ _).toArray.size = _
    rw [List.size_toArray, List.length_map, hlen]
end
section
open PySem PySem.W PyProof.Rows PySem.Calls
set_option maxRecDepth 100000
def Froz (o : Obj) : Prop := o.cls = .type "frozenset" ∧ o.dict = none ∧ o.slots = #[]
/-- the elements of a table of texts -/
structure SetEs (w : World) (es : Array (Int × Value)) (S : Str → Bool) (n : Nat) : Prop where
  el : ElemsOf (strKind P0 w) es.toList
  mem : ∀ k, S k = true ↔ ∃ e ∈ es.toList, (strKind P0 w).is k e.2 = true
  size : es.size = n
  nd : ∀ k, es.toList.countP (fun e => (strKind P0 w).is k e.2) ≤ 1
def FS (w : World) (h : Heap) (a : Addr) (S : Str → Bool) (n : Nat) : Prop := ∃ o es ep t, h.get? a = some o ∧ Froz o ∧ o.data = .set es ep t ∧ SetEs w es S n ∧ t.fits n = true
/-- the same, its table clean and of a known width -/
def FSM (w : World) (h : Heap) (a : Addr) (S : Str → Bool) (n m : Nat) : Prop := ∃ o es ep t, h.get? a = some o ∧ Froz o ∧ o.data = .set es ep t ∧ SetEs w es S n ∧ t.fits n = true ∧ t.mask = m ∧ t.dummies = #[]
theorem FSM.fs {w : World} {h : Heap} {a : Addr} {S : Str → Bool} {n m : Nat} (x : FSM w h a S n m) : FS w h a S n := let ⟨o, es, ep, t, e, f, d, z, q, _⟩ := x; ⟨o, es, ep, t, e, f, d, z, q⟩
theorem FS.keep {w : World} {h h' : Heap} {a : Addr} {S : Str → Bool} {n : Nat} (x : FS w h a S n) (k : ∀ o, h.get? a = some o → h'.get? a = some o) : FS w h' a S n := let ⟨o, es, ep, t, e, r⟩ := x; ⟨o, es, ep, t, k o e, r⟩
theorem FSM.keep {w : World} {h h' : Heap} {a : Addr} {S : Str → Bool} {n m : Nat} (x : FSM w h a S n m) (k : ∀ o, h.get? a = some o → h'.get? a = some o) : FSM w h' a S n m := let ⟨o, es, ep, t, e, r⟩ := x; ⟨o, es, ep, t, k o e, r⟩
theorem FS.typeIs {w : World} {s : Shared} {a : Addr} {S : Str → Bool} {n : Nat} (x : FS w s.heap a S n) : s.TypeIs (.ref a) "frozenset" := let ⟨o, _, _, _, e, c, _⟩ := x; ⟨o, e, c.1⟩
theorem FS.fset {w : World} {h : Heap} {a : Addr} {S : Str → Bool} {n : Nat} (x : FS w h a S n) (hn : n < scanBound) : FSet w h a S := by
  obtain ⟨o, es, ep, t, e, ⟨c1, c2, c3⟩, d, z, q⟩ := x
  exact ⟨o, es, ep, t, e, c1, c2, d, z.el, z.mem, by rw [z.size]; exact hn, by rw [z.size]; exact q⟩
section
variable {w : World} {A : Around} {E : Value → Shared → Prop} {s : Shared}
theorem put_get {h : Heap} {a : Addr} {o : Obj} {es : Array (Int × Value)} {ep : Nat} {t : SetTable} (ho : h.get? a = some o) (hd : o.data = .set es ep t) (es' : Array (Int × Value)) (t' : SetTable) :
    (h.update a (Obj.putSet es' t')).get? a = some { o with data := .set es' (ep + 1) t' } := by
  have := Heap.get?_update_self (Obj.putSet es' t') ho (by rw [putSet_of es' t' hd]; rfl)
  rw [putSet_of es' t' hd] at this; exact this
theorem put_fs {h : Heap} {a : Addr} {o : Obj} {es : Array (Int × Value)} {ep : Nat} {t : SetTable} (ho : h.get? a = some o) (hf : Froz o) (hd : o.data = .set es ep t) {es' : Array (Int × Value)} {t' : SetTable} {S : Str → Bool} {n : Nat}
    (z : SetEs w es' S n) (q : t'.fits n = true) : FS w (h.update a (Obj.putSet es' t')) a S n := ⟨_, es', ep + 1, t', put_get ho hd es' t', hf, rfl, z, q⟩
theorem SetEs.perm {es es' : Array (Int × Value)} {S : Str → Bool} {n : Nat} (z : SetEs w es S n) (p : es'.toList.Perm es.toList) : SetEs w es' S n :=
  ⟨z.el.perm p, fun k => (z.mem k).trans ⟨fun ⟨e, he, q⟩ => ⟨e, p.mem_iff.mpr he, q⟩, fun ⟨e, he, q⟩ => ⟨e, p.mem_iff.mp he, q⟩⟩, by rw [← z.size, ← Array.length_toList, p.length_eq, Array.length_toList], fun k => by rw [p.countP_eq]; exact z.nd k⟩
theorem SetEs.push {es es' : Array (Int × Value)} {S : Str → Bool} {n : Nat} {k : Str} {x : Value} (z : SetEs w es S n) (hk : (strKind P0 w).is k x = true) (hx : x.scannable = true) (hSk : S k = false) (p : es'.toList.Perm (es.push ((strKind P0 w).hash k, x)).toList) :
    SetEs w es' (fun k' => S k' || decide (k' = k)) (n + 1) := by
  rw [Array.toList_push] at p
  refine ⟨(z.el.push hk hx).perm p, mem_push_iff hk z.mem p, ?_, fun k' => ?_⟩
  · rw [← Array.length_toList, p.length_eq, List.length_append, Array.length_toList, z.size]; rfl
  · rw [p.countP_eq, List.countP_append, List.countP_singleton]
    by_cases hq : (strKind P0 w).is k' x = true
    · obtain rfl : k' = k := (strKind P0 w).inj x k' k hq hk
      have h0 : es.toList.countP (fun e => (strKind P0 w).is k' e.2) = 0 := by
        rw [List.countP_eq_zero]
        intro e he hp
        have := (z.mem k').mpr ⟨e, he, hp⟩
        rw [hSk] at this; cases this
      rw [h0]
      split <;> omega
    · have := z.nd k'
      rw [if_neg hq]
      exact this
theorem put_sized {a : Addr} {o : Obj} {es : Array (Int × Value)} {ep : Nat} {t : SetTable} {es' : Array (Int × Value)} {t' : SetTable} {Q : Unit → Shared → Prop} (ho : s.heap.get? a = some o) (hd : o.data = .set es ep t) (hz : es'.size ≤ 4000)
    (h : Q () { s with heap := s.heap.update a (Obj.putSet es' t') }) : wpAny (model P0 w) A (storeSet a es' t') Q E s :=
  wpAny_storeSet_of ho hd h (by rw [sizeLine_eq]; omega)
/-- one more text -/
theorem fs_add {a : Addr} {S : Str → Bool} {n : Nat} {k : Str} {x : Value} {Q : Bool → Shared → Prop} (hkey : (strKind P0 w).is k x = true) (hsc : x.scannable = true) (hS : FS w s.heap a S n) (hroom : n ≤ 1000)
    (h : ∀ h' b, Heap.SameBut a s.heap h' → FS w h' a (fun k' => S k' || decide (k' = k)) (if S k then n else n + 1) → Q b { s with heap := h' }) :
    wpAny (model P0 w) A (setAddHashed a x ((strKind P0 w).hash k)) Q E s := by
  obtain ⟨o, es, ep, t, ho, hex, hd, z, hf⟩ := hS
  have hb : es.size < scanBound := by rw [z.size]; show n < 4096; omega
  have hf' : t.fits es.size = true := by rw [z.size]; exact hf
  unfold setAddHashed setAddHashedIn
  refine wpAny_holding (wpAny_bind (wpAny_setState_of ho hd hf' ?_))
  dsimp only
  rw [byScan_of hsc hb z.el]
  simp only [↓reduceIte]
  unfold setAddByScan
  refine wpAny_bind ?_
  refine wpAny_bind (wpAny_rule ?_)
  refine wpAny_bind (wpAny_setScan_of hkey ho hd hf' z.el ?_)
  cases hr : List.findIdx? (fun e => (strKind P0 w).is k e.2) es.toList with
  | some j =>
    dsimp only
    obtain ⟨hj, hpj, _⟩ := List.findIdx?_eq_some_iff_getElem.mp hr
    have hSk : S k = true := (z.mem k).mpr ⟨es.toList[j], List.getElem_mem hj, hpj⟩
    refine wpAny_pure (wpAny_pure ?_)
    have := h s.heap false (Heap.SameBut.refl a s.heap) ⟨o, es, ep, t, ho, hex, hd, ⟨z.el, fun k' => by
      rw [Bool.or_eq_true, decide_eq_true_eq, ← z.mem k']
      exact ⟨fun hk => hk.elim id (fun e => e ▸ hSk), .inl⟩, by rw [hSk]; exact z.size, z.nd⟩, by rw [hSk]; exact hf⟩
    exact this
  | none =>
    dsimp only
    have hSk : S k = false := by
      cases hk : S k with
      | false => rfl
      | true => obtain ⟨e, he, hp⟩ := (z.mem k).mp hk; have := List.findIdx?_eq_none_iff.mp hr e he; rw [hp] at this; exact Bool.noConfusion this
    have hgw : ∀ (b : Bool) {s₁ : Shared} {Q' : Unit → Shared → Prop}, Q' () s₁ → wpAny (model P0 w) A (match b with | true => rule "set.scan.the-table-gave-way" | false => pure ()) Q' E s₁ :=
      fun b s₁ Q' hq => by cases b <;> first | exact wpAny_pure hq | exact wpAny_rule hq
    have hperm := layNew_perm t es ((strKind P0 w).hash k) x
    have hfits := layNew_fits t es ((strKind P0 w).hash k) x
    generalize hL : layNew t es ((strKind P0 w).hash k) x = L at hperm hfits ⊢
    obtain ⟨es1, t1, wasDummy, gave⟩ := L
    dsimp only at hperm hfits ⊢
    have z1 := z.push hkey hsc hSk hperm
    rw [z1.size] at hfits
    have hend : ∀ h', Heap.SameBut a s.heap h' → FS w h' a (fun k' => S k' || decide (k' = k)) (n + 1) → Q true { s with heap := h' } := by
      intro h' hsb hS'
      have := h h' true hsb
      rw [hSk] at this
      exact this hS'
    refine wpAny_bind (hgw _ ?_)
    -- the store, and the table laid anew where it is too full
    have tail : ∀ t2 : SetTable, t2.fits (n + 1) = true → ∀ {g : Bool → Sem Unit}, (∀ (b : Bool) (s₁ : Shared) (Q' : Unit → Shared → Prop), Q' () s₁ → wpAny (model P0 w) A (g b) Q' E s₁) → ∀ {R : Option Bool → Shared → Prop},
        (∀ h', Heap.SameBut a s.heap h' → FS w h' a (fun k' => S k' || decide (k' = k)) (n + 1) → R (some true) { s with heap := h' }) →
        wpAny (model P0 w) A (do
          storeSet a es1 t2
          if (!wasDummy && t2.tooFull) = true then do
              g (relayAll t2 es1 (SetTable.grown es1.size)).2.2
              storeSet a (relayAll t2 es1 (SetTable.grown es1.size)).1 (relayAll t2 es1 (SetTable.grown es1.size)).2.1
              pure (some true)
            else pure (some true)) R E s := by
      intro t2 hf2 g hg R hR
      refine wpAny_bind (put_sized ho hd (by rw [z1.size]; omega) ?_)
      have F1 := put_fs (w := w) ho hex hd z1 hf2
      have hsb1 := Heap.SameBut.update s.heap a (Obj.putSet es1 t2)
      split
      · have hp := relayAll_perm t2 es1 (SetTable.grown es1.size)
        have hfr := relayAll_fits t2 es1 (SetTable.grown es1.size)
        generalize hRl : relayAll t2 es1 (SetTable.grown es1.size) = Rl at hp hfr ⊢
        obtain ⟨es2, t3, gave2⟩ := Rl
        dsimp only at hp hfr ⊢
        have z2 := z1.perm hp
        rw [z2.size] at hfr
        refine wpAny_bind (hg _ _ _ ?_)
        refine wpAny_bind (put_sized (s := { s with heap := s.heap.update a (Obj.putSet es1 t2) }) (put_get ho hd es1 t2) rfl (by rw [z2.size]; omega) ?_)
        exact wpAny_pure (hR _ (hsb1.trans (Heap.SameBut.update _ a _)) (put_fs (put_get ho hd es1 t2) hex rfl z2 hfr))
      · exact wpAny_pure (hR _ hsb1 F1)
    split
    · refine wpAny_bind ?_
      rw [hashByValue_scannable 8 hsc]
      refine wpAny_pure ?_
      refine tail _ ?_ ?_ ?_
      · split
        · exact hfits
        · exact SetTable.fits_plain_off hfits
      · intro b s₁ Q' hq; cases b <;> first | exact wpAny_pure hq | exact wpAny_rule hq
      · intro h' hsb hS'; dsimp only; exact wpAny_pure (hend h' hsb hS')
    · refine wpAny_bind (wpAny_pure ?_)
      simp only [↓reduceIte]
      refine tail _ hfits ?_ ?_
      · intro b s₁ Q' hq; cases b <;> first | exact wpAny_pure hq | exact wpAny_rule hq
      · intro h' hsb hS'; dsimp only; exact wpAny_pure (hend h' hsb hS')
end
end
section
open PySem PySem.W PyProof.Rows PySem.Calls
set_option maxRecDepth 100000
/-- grown by k objects; all but a stand as they stood -/
def Grow (k : Nat) (a : Addr) (h h' : Heap) : Prop := h'.objs.size = h.objs.size + k ∧ Heap.ExtBut a h h'
namespace FF
theorem mro : mroOf (.type "frozenset") = pure [.type "frozenset", .type "object"] := by rw [mroOf_type]; kernel_rfl
theorem lookup_new : typeLookup (.type "frozenset") "__new__" = pure (some (.builtin "frozenset.__new__")) := by rw [typeLookup_type, builtinLookup_eq_fast]; kernel_rfl
theorem slot_init : Slot "frozenset" "__init__" "object.__init__" :=
  .of (owner := "object") (n := "__init__") (by rw [typeLookup_type, builtinLookup_eq_fast]; kernel_rfl) (by decide +kernel) (by decide +kernel) (by decide +kernel)
    (by first | exact .inl (by decide +kernel) | exact .inr (by decide +kernel)) (by rw [isSubtype_type]; kernel_rfl)
theorem called : TypeCalled "frozenset" "frozenset.__new__" "object.__init__" :=
  ⟨by decide +kernel, by decide +kernel, ⟨_, _, mro⟩, madeBy_type mro lookup_new (by decide +kernel), by decide +kernel, by rw [isSubtype_type]; kernel_rfl, slot_init⟩
theorem typeCall_1 (a : Value) : checkTypeCall "frozenset" ⟨[a], []⟩ = pure () := by kernel_rfl
theorem newCall_1 (a : Value) : checkBuiltinCall "frozenset.__new__" ⟨[.type "frozenset", a], []⟩ = pure () := by kernel_rfl
theorem entry_new : entryFor table "frozenset.__new__" = some Builtin.«frozenset.__new__» := entryFor_of_tree (by kernel_rfl)
theorem lookup_init : typeLookup (.type "frozenset") "__init__" = pure (some (.builtin "object.__init__")) := by rw [typeLookup_type, builtinLookup_eq_fast]; kernel_rfl
theorem str_set : isSubtype (.type "str") (.type "set") = pure false := isSubtype_of_subB (by decide +kernel)
theorem str_froz : isSubtype (.type "str") (.type "frozenset") = pure false := isSubtype_of_subB (by decide +kernel)
theorem gen_set : isSubtype (.type "generator") (.type "set") = pure false := isSubtype_of_subB (by decide +kernel)
theorem gen_froz : isSubtype (.type "generator") (.type "frozenset") = pure false := isSubtype_of_subB (by decide +kernel)
theorem froz_set : isSubtype (.type "frozenset") (.type "set") = pure false := isSubtype_of_subB (by decide +kernel)
theorem froz_froz : isSubtype (.type "frozenset") (.type "frozenset") = pure true := isSubtype_of_subB (by decide +kernel)
end FF
section
variable {w : World} {A : Around} {E : Value → Shared → Prop} {s : Shared}
theorem ascii_end {it : Addr} {x : Str} {t : Tok} {i : Nat} {Q : Option Value → Shared → Prop} (hh : A.handled = none)
    (hit : s.heap.IsStrIter it "str_ascii_iterator" x t i) (hx : x.cps[i]? = none)
    (hQ : ∀ h', Grow 2 it s.heap h' → Q none { s with heap := h' }) : wpAny (model P0 w) A (pyNext (.ref it)) Q E s := by
  obtain ⟨o, ho, hc, hd⟩ := id hit
  unfold pyNext
  refine wpAny_bind (wpAny_attempt (wpAny_callSpecial?_slot (name := Str.ofString "__next__") hit.typeIs F.slot_str_ascii_iterator_next
    (wpAny_call_entry F.slot_str_ascii_iterator_next hit.typeIs F.entry_str_ascii_iterator_next ?_ (F.args_str_ascii_iterator_next_1 _))))
  show wpAny _ _ (field (.ref it) 0 >>= _) _ _ s
  refine wpAny_bind (wpAny_field ho hd (x := .str x t) rfl ?_)
  show wpAny _ _ (field (.ref it) 1 >>= _) _ _ s
  refine wpAny_bind (wpAny_field ho hd (x := .int i 0) rfl ?_)
  simp only [Int.toNat_natCast, hx]
  refine wpAny_bind (wpAny_rule (wpAny_bind (wpAny_setField ho hd (by simp) (wpAny_bind (wpAny_letGo ?_)))))
  show wpAny _ _ (newExc (.type "StopIteration") [] >>= _) _ _ _
  refine wpAny_bind ?_
  simp only [newExc, newTuple]
  refine wpAny_bind (wpAny_newObj_type ?_ (by size_fits))
  refine wpAny_bind (m := firstArgMember _ _) (wpAny_of_eq (a := Value.none) (by first | rfl | (simp only [firstArgMember]; rfl)) ?_)
  refine wpAny_newObj_type ?_ (by size_fits)
  simp only [raiseNew]
  refine wpAny_bind (wpAny_handled ?_)
  rw [show A.in1.handled = none from hh]
  refine wpAny_bind (wpAny_pure (wpAny_throw ?_))
  refine wpAny_bind (wpAny_isInstance (T := "StopIteration") (b := true) ⟨_, Heap.get?_push_size _ rfl, rfl⟩ isSubtype_stop ?_)
  refine wpAny_pure (hQ _ ⟨?_, ((Heap.SameBut.update ..).extBut.push _).push _⟩)
  rw [Heap.size_push, Heap.size_push, (Heap.SameBut.update s.heap it _).1]
theorem range_end {it : Addr} {x left step : Int} {Q : Option Value → Shared → Prop} (hh : A.handled = none) (hit : IsRangeIter s.heap it x left step) (hleft : left ≤ 0)
    (hQ : ∀ h', Grow 2 it s.heap h' → Q none { s with heap := h' }) : wpAny (model P0 w) A (pyNext (.ref it)) Q E s := by
  have hT : s.TypeIs (.ref it) "range_iterator" := ⟨_, hit, rfl⟩
  unfold pyNext
  refine wpAny_bind (wpAny_attempt (wpAny_callSpecial?_slot (name := Str.ofString "__next__") hT F.slot_range_iterator_next
    (wpAny_call_entry F.slot_range_iterator_next hT F.entry_range_iterator_next ?_ (F.args_range_iterator_next_1 _))))
  show wpAny _ _ (field (.ref it) 0 >>= _) _ _ s
  refine wpAny_bind (wpAny_field hit rfl (x := rawInt x) rfl ?_)
  show wpAny _ _ (field (.ref it) 1 >>= _) _ _ s
  refine wpAny_bind (wpAny_field hit rfl (x := rawInt left) rfl ?_)
  show wpAny _ _ (field (.ref it) 2 >>= _) _ _ s
  refine wpAny_bind (wpAny_field hit rfl (x := rawInt step) rfl ?_)
  show wpAny _ _ (if left ≤ 0 then _ else _) _ _ s
  rw [if_pos hleft]
  refine wpAny_bind (wpAny_rule ?_)
  refine wpAny_bind ?_
  show wpAny _ _ (newExc (.type "StopIteration") [] >>= _) _ _ _
  refine wpAny_bind ?_
  simp only [newExc, newTuple]
  refine wpAny_bind (wpAny_newObj_type ?_ (by size_fits))
  refine wpAny_bind (m := firstArgMember _ _) (wpAny_of_eq (a := Value.none) (by first | rfl | (simp only [firstArgMember]; rfl)) ?_)
  refine wpAny_newObj_type ?_ (by size_fits)
  simp only [raiseNew]
  refine wpAny_bind (wpAny_handled ?_)
  first | rw [show A.in1.handled = none from hh] | rw [hh]
  refine wpAny_bind (wpAny_pure (wpAny_throw ?_))
  refine wpAny_bind (wpAny_isInstance (T := "StopIteration") (b := true) ⟨_, Heap.get?_push_size _ rfl, rfl⟩ isSubtype_stop ?_)
  refine wpAny_pure (hQ _ ⟨?_, ((Heap.ExtBut.refl it s.heap).push _).push _⟩)
  rw [Heap.size_push, Heap.size_push]
/-- what is drawn while the set T grows -/
structure WalksZ (w : World) (A : Around) (I T : Addr) (n : Nat) (val : Nat → Str) (St : Nat → Shared → Prop) (Fin : Shared → Prop) : Prop where
  frame : ∀ i (s : Shared) h' tk, St i s → Heap.SameBut T s.heap h' → St i { s with heap := h', toks := tk }
  item : ∀ i (s : Shared) (Q : Option Value → Shared → Prop) (E : Value → Shared → Prop), i < n → St i s →
    (∀ t s', St (i + 1) s' → (∀ o, s.heap.get? T = some o → s'.heap.get? T = some o) → Q (some (.str (val i) t)) s') → wpAny (model P0 w) A (pyNext (.ref I)) Q E s
  done : ∀ (s : Shared) (Q : Option Value → Shared → Prop) (E : Value → Shared → Prop), St n s → (∀ s', Fin s' → (∀ o, s.heap.get? T = some o → s'.heap.get? T = some o) → Q none s') → wpAny (model P0 w) A (pyNext (.ref I)) Q E s
def firsts (val : Nat → Str) (i : Nat) (k : Str) : Bool := (List.range i).any fun j => decide (k = val j)
theorem firsts_succ (val : Nat → Str) (i : Nat) : firsts val (i + 1) = fun k => firsts val i k || decide (k = val i) := by
  funext k
  unfold firsts
  rw [List.range_succ, List.any_append]
  simp
theorem update_loop {I T : Addr} {n : Nat} {val : Nat → Str} {St : Nat → Shared → Prop} {Fin : Shared → Prop} {R : Result → Shared → Prop} (W : WalksZ w A.in1 I T n val St Fin) (hn : n ≤ 1000) (hval : ∀ i, i < n → firsts val i (val i) = false) :
    ∀ (k i : Nat) (s : Shared), n - i = k → i ≤ n → St i s → FS w s.heap T (firsts val i) i →
      (∀ s', Fin s' → FS w s'.heap T (firsts val n) n → R (.ok (.ret .none)) s') →
      codeAny (model P0 w) A (.builtin "set.update.loop" ⟨[.ref T, .ref I], []⟩) R s := by
  intro k
  induction k with
  | zero =>
    intro i s hk hi hst hS hR
    obtain rfl : i = n := by omega
    refine codeAny_builtin F.entry_set_update_loop ?_
    rw [Around.under_plainId F.plain_set_update_loop _]
    show wpAny _ A.in1 (pyNext (.ref I) >>= _) _ _ s
    refine wpAny_bind (W.done s _ _ hst fun s' hf hm => ?_)
    show wpAny _ A.in1 (ret Value.none) _ _ s'
    exact wpAny_pure (hR s' hf (hS.keep hm))
  | succ k ih =>
    intro i s hk hi hst hS hR
    have hlt : i < n := by omega
    refine codeAny_builtin F.entry_set_update_loop ?_
    rw [Around.under_plainId F.plain_set_update_loop _]
    show wpAny _ A.in1 (pyNext (.ref I) >>= _) _ _ s
    refine wpAny_bind (W.item i s _ _ hlt hst fun t s' hst' hm => ?_)
    show wpAny _ A.in1 (holding [Value.str (val i) t] (setAdd T (.str (val i) t)) >>= _) _ _ s'
    refine wpAny_bind (wpAny_holding ?_)
    unfold setAdd
    refine wpAny_holding ?_
    refine wpAny_bind ((strKind P0 w).pyHash (k := val i) (strKind_is _ _ _ _) ?_)
    refine fs_add (s := { s' with toks := s'.toks + 1 }) (strKind_is _ _ _ _) rfl (hS.keep hm) (by omega) fun h' b hsb hS2 => ?_
    rw [hval i hlt] at hS2
    refine wpAny_pure ⟨plainId_quiet F.plain_set_update_loop _, ih (i + 1) _ (by omega) hlt (W.frame _ s' _ _ hst' hsb) (by rw [firsts_succ]; exact hS2) hR⟩
end
end
section
open PySem PySem.W PyProof.Rows PySem.Calls
set_option maxRecDepth 100000
section
variable {w : World} {A : Around} {E : Value → Shared → Prop} {s : Shared}
theorem new_set {Q : Value → Shared → Prop}
    (h : ∀ o, FS w (s.heap.push o) s.heap.objs.size (fun _ => false) 0 → (∀ led, o = { cls := .type "frozenset", data := .set #[] 0 (.fresh 0 0 led) } → Q (.ref s.heap.objs.size) { s with heap := s.heap.push o })) :
    wpAny (model P0 w) A (newSet (.type "frozenset")) Q E s := by
  unfold newSet setsByText
  refine wpAny_bind (wpAny_bind (wpAny_askSetting (wpAny_pure ?_)))
  dsimp only
  simp only [newObj]
  refine wpAny_bind (wpAny_alloc (wpAny_pure (h _ ?_ _ rfl)))
  exact ⟨_, #[], 0, _, Heap.get?_push_size _ rfl, ⟨rfl, rfl, rfl⟩, rfl, ⟨fun e he => by simp at he, fun k => by simp, rfl, fun k => by simp⟩, rfl⟩
/-- frozenset(iterable), the iterable neither a set nor a dict -/
theorem froz_new {v : Value} {ty : String} (h1 : isSubtype (.type ty) (.type "set") = pure false) (h2 : isSubtype (.type ty) (.type "frozenset") = pure false) (h3 : (Value.type ty == .type "dict") = false) (h4 : (Value.type ty == .type "frozenset") = false)
    (hT : ∀ s₁ : Shared, (∀ b o, s.heap.get? b = some o → s₁.heap.get? b = some o) → s₁.TypeIs v ty) {R : Result → Shared → Prop}
    (h : ∀ o led, o = { cls := .type "frozenset", data := .set #[] 0 (.fresh 0 0 led) } → FS w (s.heap.push o) s.heap.objs.size (fun _ => false) 0 → ∀ (E' : Value → Shared → Prop),
      wpAny (model P0 w) A.in1 (pyIter v) (fun it s₂ => codeAny (model P0 w) A.in1 (.builtin "set.update.loop" ⟨[.ref s.heap.objs.size, it], []⟩) (fun r s' => r = .ok (.ret .none) ∧ R (.ok (.ret (.ref s.heap.objs.size))) s') s₂) E' { s with heap := s.heap.push o }) :
    wpAny (model P0 w) A.in1 (Builtin.«frozenset.__new__» ⟨[.type "frozenset", v], []⟩)
      (fun fin s' => match fin with | .done f => R (.ok f) s' | .again c' => c'.quiet = true ∧ codeAny (model P0 w) A c' R s') (fun e s' => R (.error e) s') s := by
  have hsub := FF.froz_froz
  have hinit := FF.lookup_init
  have hT0 := hT s fun _ _ e => e
  unfold Builtin.«frozenset.__new__»
  obtain ⟨hp, g, d, tk, os⟩ := s
  repeat (first | (with_reducible refine new_set fun o hF led ho => ?_) | (with_reducible refine wpAny_typeOf hT0 ?_) | wp_step)
  have hT1 := hT { heap := hp.push o, gens := g, drawn := d, toks := tk, os := os } fun b o' e => Heap.get?_push_of_some _ e
  show wpAny _ _ (typeOf v) _ _ { heap := hp.push o, gens := g, drawn := d, toks := tk, os := os }
  refine wpAny_typeOf hT1 ?_
  show wpAny _ _ (isSubtype (.type ty) (.type "set")) _ _ _
  rw [h1]
  refine wpAny_pure ?_
  show wpAny _ _ (isInstance v (.type "frozenset")) _ _ _
  refine wpAny_isInstance hT1 h2 ?_
  simp only [Bool.false_eq_true, if_false]
  refine wpAny_bind (wpAny_typeOf hT1 ?_)
  rw [h3]
  simp only [Bool.false_eq_true, if_false]
  refine wpAny_bind (wpAny_mono (h o led ho hF _) (fun it s₂ h₂ => ?_) fun _ _ e => e)
  refine wpAny_bind (wpAny_runValue (codeAny_mono h₂ fun r s' hr => ?_))
  obtain ⟨rfl, hr⟩ := hr
  refine wpAny_pure ?_
  refine wpAny_pure ?_
  exact wpAny_pure hr
end
end
section
open PySem PySem.W PyProof.Rows PySem.Calls
set_option maxRecDepth 100000
section
variable {w : World} {A : Around} {E : Value → Shared → Prop} {s : Shared}
def signAt (x : Str) (i : Nat) : Str := ⟨#[x.cps.getD i 0]⟩
/-- what stands while a text is drawn: I its iterator, T the set, base the state ahead of both -/
structure TxtSt (base : Shared) (T I : Addr) (x : Str) (t : Tok) (i : Nat) (s : Shared) : Prop where
  it : s.heap.IsStrIter I "str_ascii_iterator" x t i
  sz : s.heap.objs.size = base.heap.objs.size + 2
  kp : ∀ b o, base.heap.get? b = some o → s.heap.get? b = some o
  re : s.gens = base.gens ∧ s.drawn = base.drawn ∧ s.os = base.os
structure Grown (k : Nat) (base s : Shared) : Prop where
  sz : s.heap.objs.size = base.heap.objs.size + k
  kp : ∀ b o, base.heap.get? b = some o → s.heap.get? b = some o
  re : s.gens = base.gens ∧ s.drawn = base.drawn ∧ s.os = base.os
theorem walks_txt {base : Shared} {T I : Addr} {x : Str} {t : Tok} (hh : A.handled = none) (hIT : I ≠ T) (hT0 : base.heap.get? T = none) (hI0 : base.heap.get? I = none) :
    WalksZ w A I T x.length (signAt x) (TxtSt base T I x t) (Grown 4 base) where
  frame := fun i s h' tk st hsb => ⟨let ⟨o, e, z⟩ := st.it; ⟨o, (hsb.2 I hIT).trans e, z⟩, hsb.1.trans st.sz, fun b o e => (hsb.2 b (fun z => by rw [z, hT0] at e; cases e)).trans (st.kp b o e), st.re⟩
  item := fun i s Q E hi st hQ => by
    have hi' : i < x.cps.size := hi
    refine wpAny_pyNext_ascii_item st.it (Array.getElem?_eq_getElem hi') fun h' it' hsb => ?_
    have e : signAt x i = ⟨#[x.cps[i]]⟩ := by unfold signAt; rw [Array.getD_eq_getD_getElem?, Array.getElem?_eq_getElem hi']; rfl
    rw [← e]
    exact hQ _ _ ⟨it', hsb.1.trans st.sz, fun b o e => (hsb.2 b (fun z => by rw [z, hI0] at e; cases e)).trans (st.kp b o e), st.re⟩ fun o e => (hsb.2 T (Ne.symm hIT)).trans e
  done := fun s Q E st hQ => by
    refine ascii_end hh st.it (Array.getElem?_eq_none (Nat.le_refl _)) fun h' hg => ?_
    exact hQ _ ⟨hg.1.trans (by rw [st.sz]), fun b o e => hg.2 b o (fun z => by rw [z, hI0] at e; cases e) (st.kp b o e), st.re⟩ fun o e => hg.2 T o (Ne.symm hIT) e
theorem froz_text {x : Str} {t : Tok} {Q : Value → Shared → Prop} (hh : A.handled = none) (ha : x.cps.all (· < 128) = true) (hn : x.length ≤ 1000) (hd : ∀ i, i < x.length → firsts (signAt x) i (signAt x i) = false)
    (h : ∀ s', Grown 4 s s' → FS w s'.heap s.heap.objs.size (firsts (signAt x) x.length) x.length → Q (.ref s.heap.objs.size) s') :
    wpAny (model P0 w) A (call (.type "frozenset") [.str x t]) Q E s := by
  refine callType_newIn FF.called (by decide) (FF.typeCall_1 _) (FF.newCall_1 _) (fun obj => F.args_object_init_2 obj _) FF.entry_new
    (S := fun A' R s₀ => A'.handled = none ∧ ∀ s', Grown 4 s₀ s' → FS w s'.heap s₀.heap.objs.size (firsts (signAt x) x.length) x.length → R (.ok (.ret (.ref s₀.heap.objs.size))) s') ?_ ⟨hh, fun s' g f => ⟨f.typeIs, h s' g f⟩⟩
  rintro A' R s₀ ⟨hA', hR⟩
  refine froz_new (ty := "str") FF.str_set FF.str_froz (by decide) (by decide) (fun s₁ _ => typeIs_str _ _ _) fun o led ho hF E' => ?_
  refine wpAny_pyIter_ascii ha ?_
  have hsz : (s₀.heap.push o).objs.size = s₀.heap.objs.size + 1 := Heap.size_push ..
  have hIT : (s₀.heap.push o).objs.size ≠ s₀.heap.objs.size := by omega
  refine update_loop (A := A'.in1) (walks_txt (w := w) (A := A'.in1.in1) (base := s₀) (t := t) hA' hIT (Heap.get?_none_of_le (Nat.le_refl _)) (Heap.get?_none_of_le (by rw [hsz]; exact Nat.le_succ _))) hn hd x.length 0 _ rfl (Nat.zero_le _) ?_ ?_ fun s' hg hS => ⟨rfl, hR s' hg hS⟩
  · refine ⟨⟨_, Heap.get?_push_size _ rfl, rfl, rfl⟩, ?_, fun b o' e => Heap.get?_push_of_some _ (Heap.get?_push_of_some _ e), rfl, rfl, rfl⟩
    show (Heap.push _ _).objs.size = _
    rw [Heap.size_push]
    show (Heap.push _ _).objs.size + 1 = _
    rw [Heap.size_push]
  · have : firsts (signAt x) 0 = fun _ => false := rfl
    rw [this]
    exact hF.keep fun o' e => Heap.get?_push_of_some _ e
end
end
section
open PySem PySem.W PyProof.Rows PySem.Calls
set_option maxRecDepth 100000
theorem pick_perm {α : Type} (es : Array α) (order : Array Nat) (h : order.toList.Perm (List.range es.size)) : (order.filterMap (es[·]?)).toList.Perm es.toList := by
  rw [Array.toList_filterMap]
  refine (h.filterMap _).trans ?_
  have : (List.range es.size).filterMap (es[·]?) = es.toList := by
    apply List.ext_getElem?
    intro i
    have hall : ∀ a ∈ List.range es.size, (es[a]?).isSome = true := fun a ha => by rw [Array.getElem?_eq_getElem (List.mem_range.mp ha)]; rfl
    have e : (List.range es.size).filterMap (es[·]?) = (List.range es.size).attach.map fun a => es[a.1]'(List.mem_range.mp a.2) := by
      have key : ∀ (l : List Nat) (hl : ∀ a ∈ l, a < es.size), l.filterMap (es[·]?) = l.attach.map fun a => es[a.1]'(hl a.1 a.2) := by
        intro l
        induction l with
        | nil => intro _; rfl
        | cons a l ih =>
          intro hl
          rw [List.filterMap_cons, Array.getElem?_eq_getElem (hl a (List.mem_cons_self ..)), List.attach_cons, List.map_cons, ih fun b hb => hl b (List.mem_cons_of_mem _ hb), List.map_map]
          rfl
      exact key _ fun a ha => List.mem_range.mp ha
    rw [e]
    simp only [List.getElem?_map, List.getElem?_attach, Array.getElem?_toList]
    by_cases hi : i < es.size
    · simp [hi]
    · simp [hi]
  rw [this]
theorem empty_of_perm {order : Array Nat} (h : order.toList.Perm (List.range 0)) : order = #[] := by
  have := h.length_eq
  rw [List.length_range, Array.length_toList] at this
  exact Array.eq_empty_of_size_eq_zero this
section
variable {w : World} {A : Around} {E : Value → Shared → Prop} {s : Shared}
/-- a fresh, empty set, its table of the width m -/
def Fresh (h : Heap) (a : Addr) (m : Nat) : Prop := ∃ o ep t, h.get? a = some o ∧ Froz o ∧ o.data = .set #[] ep t ∧ t.place = #[] ∧ t.dummies = #[] ∧ t.mask = m
theorem Fresh.fits {t : SetTable} (h1 : t.place = #[]) (h2 : t.dummies = #[]) : t.fits 0 = true := by unfold SetTable.fits SetTable.fill; rw [h1, h2]; simp
theorem room {a : Addr} {k m' : Nat} {Q : Unit → Shared → Prop} (hF : Fresh s.heap a 7) (hm : Full5 m') (hk : (if k * 5 ≥ 21 then SetTable.sizeAbove (k * 2) - 1 else 7) = m') (hk2 : SetTable.sizeAbove (k * 2) ≤ 1000)
    (h : ∀ h', Heap.SameBut a s.heap h' → Fresh h' a m' → Q () { s with heap := h' }) : wpAny (model P0 w) A (setRoomFor a k) Q E s := by
  obtain ⟨o, ep, t, ho, hf, hd, h1, h2, h3⟩ := hF
  have hfit := Fresh.fits h1 h2
  unfold setRoomFor
  refine wpAny_bind (wpAny_setState_of ho hd hfit ?_)
  have hr : t.roomFor k = if k * 5 ≥ 21 then some (k * 2) else none := by
    unfold SetTable.roomFor SetTable.fill
    rw [h1, h2, h3]
    simp
  dsimp only
  rw [hr]
  by_cases hq : k * 5 ≥ 21
  · rw [if_pos hq] at hk ⊢
    dsimp only
    unfold setRelay
    refine wpAny_bind (wpAny_setState_of ho hd hfit ?_)
    dsimp only
    have hsl : ¬ SetTable.sizeAbove (k * 2) > sizeLine := by rw [sizeLine_eq]; omega
    simp only [hsl, if_false]
    have hrel : ∃ t' order, t.relaid ((#[] : Array (Int × Value)).map (·.1)) (k * 2) = some (t', order) ∧ order = #[] ∧ t'.mask = m' ∧ t'.place = #[] ∧ t'.dummies = #[] := by
      unfold SetTable.relaid
      rw [hk]
      obtain ⟨t', order, e, hp, hm', hpl, hdm⟩ := laid_ok hm t.finger (t.movedTo m') t.led t.plain ((#[] : Array (Int × Value)).map (·.1)) (by simp)
      exact ⟨t', order, e, empty_of_perm (by simpa using hp), hm', Array.eq_empty_of_size_eq_zero (by simpa using hpl), hdm⟩
    obtain ⟨t', order, e, rfl, e1, e2, e3⟩ := hrel
    rw [e]
    refine wpAny_bind (wpAny_of_eq (a := ((#[] : Array (Int × Value)), t')) rfl ?_)
    refine put_sized ho hd (by simp) ?_
    exact h _ (Heap.SameBut.update ..) ⟨_, ep + 1, t', put_get ho hd #[] t', hf, rfl, e2, e3, e1⟩
  · rw [if_neg hq] at hk ⊢
    dsimp only
    subst hk
    exact wpAny_pure (h s.heap (Heap.SameBut.refl a s.heap) ⟨o, ep, t, ho, hf, hd, h1, h2, h3⟩)
/-- es laid in this order -/
def reord (es : Array (Int × Value)) (laid : Option (SetTable × Array Nat)) : Sem (Array (Int × Value) × SetTable) := do
  let some (t, order) := laid | unsupported "internal:set-table-without-room"
  let es' := order.filterMap (es[·]?)
  if es'.size != es.size then unsupported "internal:set-table-lost-an-element"
  pure (es', t)
theorem reord_ok {es : Array (Int × Value)} {t : SetTable} {order : Array Nat} {Q : Array (Int × Value) × SetTable → Shared → Prop} (hp : order.toList.Perm (List.range es.size)) (h : Q (order.filterMap (es[·]?), t) s) :
    wpAny (model P0 w) A (reord es (some (t, order))) Q E s := by
  have hs : (order.filterMap (es[·]?)).size = es.size := by rw [← Array.length_toList, (pick_perm es order hp).length_eq, Array.length_toList]
  unfold reord
  dsimp only
  have hb : ((order.filterMap (es[·]?)).size != es.size) = false := by rw [hs]; simp
  rw [hb]
  simp only [Bool.false_eq_true, if_false]
  exact wpAny_pure h
/-- a set merged into a fresh one -/
theorem merge_fresh {a b : Addr} {S : Str → Bool} {n m : Nat} {each : Sem Unit} {Q : Unit → Shared → Prop} (hab : a ≠ b) (hF : Fresh s.heap a 7) (hS : FS w s.heap b S n) (hn : 0 < n) (hnm : n ≤ m) (hm : Full5 m) (hk : (if n * 5 ≥ 21 then SetTable.sizeAbove (n * 2) - 1 else 7) = m) (hk2 : SetTable.sizeAbove (n * 2) ≤ 1000) (hn2 : n ≤ 1000)
    (h : ∀ h', Heap.SameBut a s.heap h' → FSM w h' a S n m → Q () { s with heap := h' }) : wpAny (model P0 w) A (setMerge a b each) Q E s := by
  obtain ⟨ob, eb, epb, tb, hob, hfb, hdb, zb, hfitb⟩ := id hS
  have hfitb' : tb.fits eb.size = true := by rw [zb.size]; exact hfitb
  have hne : (a == b) = false := by simpa using hab
  unfold setMerge
  rw [hne]
  simp only [Bool.false_eq_true, if_false]
  refine wpAny_bind (wpAny_setState_of hob hdb hfitb' ?_)
  dsimp only
  have hemp : eb.isEmpty = false := by
    have := zb.size
    simp only [Array.isEmpty, beq_eq_false_iff_ne, ne_eq, decide_eq_false_iff_not]
    omega
  rw [hemp]
  simp only [Bool.false_eq_true, if_false]
  rw [zb.size]
  refine wpAny_bind (room hF hm hk hk2 fun h₁ s₁ F₁ => ?_)
  obtain ⟨o, ep, t, ho, hf, hd, h1, h2, h3⟩ := F₁
  refine wpAny_bind (wpAny_setState_of (s := { s with heap := h₁ }) ho hd (Fresh.fits h1 h2) ?_)
  dsimp only
  have hroad : t.road tb = if (m == tb.mask && tb.dummies.isEmpty) = true then SetTable.Road.slotForSlot else .clean := by
    unfold SetTable.road SetTable.fill
    rw [h1, h2, h3]
    simp
  rw [hroad]
  by_cases hq : (m == tb.mask && tb.dummies.isEmpty) = true
  · rw [if_pos hq]
    obtain ⟨q1, q2⟩ := Bool.and_eq_true_iff.mp hq
    have q1 : m = tb.mask := eq_of_beq q1
    have q2 : tb.dummies = #[] := Array.isEmpty_iff.mp q2
    refine put_sized (s := { s with heap := h₁ }) ho hd (by rw [zb.size]; omega) ?_
    refine h _ (s₁.trans (Heap.SameBut.update ..)) ⟨_, eb, ep + 1, _, put_get ho hd eb _, hf, rfl, zb, ?_, q1.symm, q2⟩
    exact hfitb
  · rw [if_neg hq]
    obtain ⟨t', order, e, hp, hm', hpl, hdm⟩ := laid_ok hm t.finger t.moves (t.led && tb.led) (t.plain && tb.plain) (eb.map (·.1)) (by rw [Array.size_map, zb.size]; exact hnm)
    rw [Array.size_map] at hp hpl
    show wpAny _ _ (reord eb (SetTable.laid t.mask t.finger t.moves (t.led && tb.led) (t.plain && tb.plain) (eb.map (·.1))) >>= fun x => storeSet a x.1 x.2) _ _ _
    rw [h3, e]
    refine wpAny_bind (reord_ok hp ?_)
    have z' := zb.perm (pick_perm eb order hp)
    refine put_sized (s := { s with heap := h₁ }) ho hd (by rw [z'.size]; omega) ?_
    refine h _ (s₁.trans (Heap.SameBut.update ..)) ⟨_, _, ep + 1, _, put_get ho hd _ t', hf, rfl, z', ?_, hm', hdm⟩
    unfold SetTable.fits SetTable.fill
    rw [hpl, hdm, hm', zb.size]
    simpa using hnm
end
end
section
open PySem PySem.W PyProof.Rows PySem.Calls
set_option maxRecDepth 100000
section
variable {w : World} {A : Around} {E : Value → Shared → Prop} {s : Shared}
/-- a set of one text, by its element -/
theorem one_es {es : Array (Int × Value)} {S : Str → Bool} (z : SetEs w es S 1) : ∃ k x, es = #[((strKind P0 w).hash k, x)] ∧ (strKind P0 w).is k x = true ∧ x.scannable = true ∧ S = fun k' => decide (k' = k) := by
  obtain ⟨e, rfl⟩ : ∃ e, es = #[e] := Array.size_eq_one_iff.mp z.size
  obtain ⟨⟨k, hk, hh⟩, hsc⟩ := z.el e (by simp)
  obtain ⟨h, x⟩ := e
  have hh : h = (strKind P0 w).hash k := hh
  subst hh
  refine ⟨k, x, rfl, hk, hsc, funext fun k' => ?_⟩
  have := z.mem k'
  simp only [List.mem_singleton, exists_eq_left] at this
  rw [Bool.eq_iff_iff, this, decide_eq_true_eq]
  exact ⟨fun h => (strKind P0 w).inj x k' k h hk, fun h => h ▸ hk⟩
theorem walk_one {a : Addr} {o : Obj} {e : Int × Value} {ep : Nat} {t : SetTable} {others : List Addr} {filled : Option Addr} {Q : Array (Int × Value) → Shared → Prop} (ho : s.heap.get? a = some o) (hd : o.data = .set #[e] ep t) (hf : t.fits 1 = true) (h : Q #[e] s) :
    wpAny (model P0 w) A (setWalkUnseen a others filled) Q E s := by
  unfold setWalkUnseen
  refine wpAny_bind (wpAny_setState_of ho hd hf ?_)
  dsimp only
  unfold setsByText
  refine wpAny_bind (wpAny_bind (wpAny_askSetting (wpAny_pure ?_)))
  have hc : ∀ b : Bool, (b || (t.led && t.plain) || decide ((#[e] : Array (Int × Value)).size ≤ 1)) = true := fun b => by simp
  rw [hc]
  simp only [if_true]
  refine wpAny_bind (wpAny_setState_of ho hd hf ?_)
  dsimp only
  refine wpAny_bind (wpAny_bind (wpAny_askSetting (wpAny_pure ?_)))
  by_cases hq : (model P0 w).w.params.followText "set-order" = true
  · rw [if_pos hq]
    refine wpAny_bind (wpAny_askSetting ?_)
    have hp : ∀ f : Nat → Nat, pickOrder f #[e] = #[e] := fun f => by
      unfold pickOrder
      simp [pickOrder.go, Nat.mod_one]
    rw [hp]
    exact wpAny_pure h
  · rw [if_neg hq]
    obtain ⟨mask, place, dummies, finger, led, moves, plain⟩ := t
    cases plain
    · show wpAny _ _ (if (true && decide (1 > 1)) = true then _ else _) _ _ _
      rw [if_neg (by simp)]
      cases led
      · exact wpAny_bind (wpAny_of_eq rfl (wpAny_pure h))
      · exact wpAny_bind (wpAny_of_eq rfl (wpAny_pure h))
    · show wpAny _ _ (if (false && decide (1 > 1)) = true then _ else _) _ _ _
      rw [if_neg (by simp)]
      cases led
      · exact wpAny_bind (wpAny_of_eq rfl (wpAny_pure h))
      · exact wpAny_bind (wpAny_of_eq rfl (wpAny_pure h))
theorem merge_one {a b : Addr} {S S' : Str → Bool} {n m : Nat} {each : Sem Unit} {Q : Unit → Shared → Prop} (hab : a ≠ b) (hF : FSM w s.heap a S n m) (hS : FS w s.heap b S' 1) (hn : 0 < n) (hroom : (n + 1) * 5 < m * 3) (hn2 : n ≤ 900) (hdis : ∀ k, S' k = true → S k = false)
    (heach : ∀ s₁ : Shared, (∃ o, s.heap.get? b = some o ∧ s₁.heap.get? b = some o) → ∀ Q' : Unit → Shared → Prop, Q' () s₁ → wpAny (model P0 w) A each Q' E s₁)
    (h : ∀ h', Heap.SameBut a s.heap h' → FS w h' a (fun k => S k || S' k) (n + 1) → Q () { s with heap := h' }) : wpAny (model P0 w) A (setMerge a b each) Q E s := by
  obtain ⟨ob, eb, epb, tb, hob, hfb, hdb, zb, hfitb⟩ := id hS
  obtain ⟨k, x, rfl, hk, hsc, rfl⟩ := one_es zb
  obtain ⟨o, es, ep, t, ho, hf, hd, z, hfit, hmask, hdum⟩ := id hF
  have hfit' : t.fits es.size = true := by rw [z.size]; exact hfit
  have hne : (a == b) = false := by simpa using hab
  have hpl : t.place.size = n := by
    unfold SetTable.fits at hfit
    exact eq_of_beq (Bool.and_eq_true_iff.mp hfit).1
  unfold setMerge
  rw [hne]
  simp only [Bool.false_eq_true, if_false]
  refine wpAny_bind (wpAny_setState_of hob hdb hfitb ?_)
  dsimp only
  have hemp : (#[((strKind P0 w).hash k, x)] : Array (Int × Value)).isEmpty = false := rfl
  rw [hemp]
  simp only [Bool.false_eq_true, if_false]
  have hr : t.roomFor 1 = none := by
    unfold SetTable.roomFor SetTable.fill
    rw [hpl, hdum, hmask, if_neg (by simp; omega)]
  refine wpAny_bind ?_
  unfold setRoomFor
  refine wpAny_bind (wpAny_setState_of ho hd hfit' ?_)
  dsimp only
  rw [show (#[((strKind P0 w).hash k, x)] : Array (Int × Value)).size = 1 from rfl, hr]
  refine wpAny_pure ?_
  refine wpAny_bind (wpAny_setState_of ho hd hfit' ?_)
  dsimp only
  have hroad : t.road tb = .oneByOne := by
    unfold SetTable.road SetTable.fill
    rw [hpl, hdum, if_pos (by simp; omega)]
  rw [hroad]
  dsimp only
  refine wpAny_bind (walk_one hob hdb hfitb ?_)
  rw [← Array.forIn_toList]
  show wpAny _ _ (forIn [((strKind P0 w).hash k, x)] PUnit.unit _ >>= _) _ _ _
  rw [List.forIn_cons]
  refine wpAny_bind (wpAny_bind ?_)
  dsimp only
  have hSk : S k = false := hdis k (by simp)
  refine wpAny_bind (wpAny_holding (fs_add hk hsc hF.fs (by omega) fun h' bb hsb hS2 => ?_))
  have hb' : h'.get? b = some ob := (hsb.2 b (Ne.symm hab)).trans hob
  refine wpAny_bind (heach { s with heap := h' } ⟨ob, hob, hb'⟩ _ ?_)
  refine wpAny_bind (wpAny_setState_of (s := { s with heap := h' }) hb' hdb hfitb ?_)
  dsimp only
  rw [if_neg (by simp)]
  refine wpAny_pure ?_
  dsimp only
  rw [List.forIn_nil]
  refine wpAny_pure ?_
  refine wpAny_pure ?_
  refine h h' hsb ?_
  rw [hSk] at hS2
  exact hS2
end
end
section
open PySem PySem.W PyProof.Rows PySem.Calls
set_option maxRecDepth 100000
section
variable {w : World} {A : Around} {E : Value → Shared → Prop} {s : Shared}
theorem any_set {a : Addr} {S : Str → Bool} {n : Nat} {Q : Bool → Shared → Prop} (hS : FS w s.heap a S n) (h : Q true s) : wpAny (model P0 w) A (Builtin.Frozenset.isAnySet (.ref a)) Q E s := by
  unfold Builtin.Frozenset.isAnySet
  refine wpAny_bind (wpAny_isInstance hS.typeIs FF.froz_set ?_)
  show wpAny _ _ (isInstance (.ref a) (.type "frozenset")) _ _ _
  exact wpAny_isInstance hS.typeIs FF.froz_froz h
theorem copy_of {b : Addr} {S : Str → Bool} {n m : Nat} {Q : Value → Shared → Prop} (hS : FS w s.heap b S n) (hn : 0 < n) (hnm : n ≤ m) (hm : Full5 m) (hk : (if n * 5 ≥ 21 then SetTable.sizeAbove (n * 2) - 1 else 7) = m) (hk2 : SetTable.sizeAbove (n * 2) ≤ 1000) (hn2 : n ≤ 1000)
    (h : ∀ h', h'.objs.size = s.heap.objs.size + 1 → (∀ b o, s.heap.get? b = some o → h'.get? b = some o) → FSM w h' s.heap.objs.size S n m → Q (.ref s.heap.objs.size) { s with heap := h' }) :
    wpAny (model P0 w) A (Builtin.Frozenset.copyOf b) Q E s := by
  unfold Builtin.Frozenset.copyOf Builtin.Frozenset.baseOf
  refine wpAny_bind (wpAny_bind (wpAny_isInstance hS.typeIs FF.froz_set ?_))
  simp only [Bool.false_eq_true, if_false]
  refine wpAny_pure ?_
  refine wpAny_bind (new_set fun o hF led ho => ?_)
  unfold Builtin.Frozenset.addrOf
  refine wpAny_bind (wpAny_pure ?_)
  have hlt : b < s.heap.objs.size := let ⟨_, _, _, _, e, _⟩ := hS; Heap.lt_size e
  refine wpAny_bind (merge_fresh (s := { s with heap := s.heap.push o }) (Ne.symm (Nat.ne_of_lt hlt)) ?_ (hS.keep fun o' e => Heap.get?_push_of_some _ e) hn hnm hm hk hk2 hn2 fun h' hsb hM => ?_)
  · subst ho
    exact ⟨_, 0, _, Heap.get?_push_size _ rfl, ⟨rfl, rfl, rfl⟩, rfl, rfl, rfl, rfl⟩
  · refine wpAny_pure (h h' ?_ (fun b' o' e => (hsb.2 b' (Nat.ne_of_lt (Heap.lt_size e))).trans (Heap.get?_push_of_some _ e)) hM)
    rw [hsb.1]
    exact Heap.size_push ..
/-- a | b, b of one text -/
theorem or_one {l r : Addr} {S S' : Str → Bool} {n m : Nat} {R : Result → Shared → Prop} (hlr : l ≠ r) (hS : FS w s.heap l S n) (hS' : FS w s.heap r S' 1) (hn : 0 < n) (hnm : n ≤ m) (hm : Full5 m) (hk : (if n * 5 ≥ 21 then SetTable.sizeAbove (n * 2) - 1 else 7) = m) (hk2 : SetTable.sizeAbove (n * 2) ≤ 1000) (hroom : (n + 1) * 5 < m * 3) (hn2 : n ≤ 900) (hdis : ∀ k, S' k = true → S k = false)
    (h : ∀ s', Grown 1 s s' → FS w s'.heap s.heap.objs.size (fun k => S k || S' k) (n + 1) → R (.ok (.ret (.ref s.heap.objs.size))) s') :
    wpAny (model P0 w) A.in1 (Builtin.«frozenset.__or__» ⟨[.ref l, .ref r], []⟩)
      (fun fin s' => match fin with | .done f => R (.ok f) s' | .again c' => c'.quiet = true ∧ codeAny (model P0 w) A c' R s') (fun e s' => R (.error e) s') s := by
  show wpAny _ _ (Builtin.Frozenset.slot1 "__or__" ⟨[.ref l, .ref r], []⟩ >>= _) _ _ _
  refine wpAny_bind (wpAny_of_eq (a := (Value.ref l, Value.ref r)) rfl ?_)
  dsimp only
  simp only [Bool.false_eq_true, if_false]
  refine wpAny_bind ?_
  show wpAny _ _ (Builtin.Frozenset.isAnySet (.ref l) >>= _) _ _ _
  refine wpAny_bind (any_set hS ?_)
  show wpAny _ _ (Builtin.Frozenset.isAnySet (.ref r)) _ _ _
  refine any_set hS' ?_
  simp only [Bool.not_true, Bool.false_eq_true, if_false]
  refine wpAny_bind (wpAny_of_eq (a := l) rfl ?_)
  refine wpAny_bind ?_
  show wpAny _ _ (Builtin.Frozenset.copyOf l >>= _) _ _ _
  refine wpAny_bind (copy_of hS hn hnm hm hk hk2 (by omega) fun h₁ hsz hkp hM => ?_)
  have hS₁ := hS'.keep (h' := h₁) fun o e => hkp _ o e
  have hne : (Value.ref r != Value.ref l) = true := by
    simp only [bne_iff_ne, ne_eq, Value.ref.injEq]
    exact fun z => hlr z.symm
  rw [hne]
  simp only [if_true]
  have hrl : r < s.heap.objs.size := let ⟨_, _, _, _, e, _⟩ := hS'; Heap.lt_size e
  have hne2 : s.heap.objs.size ≠ r := Ne.symm (Nat.ne_of_lt hrl)
  refine wpAny_bind (wpAny_of_eq (a := s.heap.objs.size) rfl ?_)
  refine wpAny_bind (wpAny_holding ?_)
  unfold Builtin.Frozenset.updateFrom
  refine wpAny_bind (any_set (s := { s with heap := h₁ }) hS₁ ?_)
  simp only [if_true]
  refine wpAny_bind (wpAny_of_eq (a := r) rfl ?_)
  unfold Builtin.Frozenset.merge
  obtain ⟨or', er, epr, tr, hor, hfr, hdr, zr, hfitr⟩ := id hS₁
  have hfitr' : tr.fits er.size = true := by rw [zr.size]; exact hfitr
  refine wpAny_bind (wpAny_setEpoch_of (s := { s with heap := h₁ }) hor hdr hfitr' ?_)
  refine merge_one (s := { s with heap := h₁ }) hne2 hM hS₁ hn hroom hn2 hdis ?_ fun h₂ hsb hF => ?_
  · rintro s₁ ⟨o', e1, e2⟩ Q' hq
    obtain rfl : or' = o' := Option.some.inj (hor.symm.trans e1)
    unfold Builtin.Frozenset.unchanged
    refine wpAny_bind (wpAny_setEpoch_of e2 hdr hfitr' ?_)
    rw [if_neg (by simp)]
    exact wpAny_pure hq
  · refine wpAny_pure ?_
    refine wpAny_pure (h _ ⟨hsb.1.trans hsz, fun b o e => (hsb.2 b (Nat.ne_of_lt (Heap.lt_size e))).trans (hkp b o e), rfl, rfl, rfl⟩ hF)
end
end
section
open PySem PySem.W PyProof.Rows PySem.Calls
set_option maxRecDepth 100000
theorem erase_list {α : Type} (xs : Array α) (i : Nat) : (SetTable.eraseAt xs i).toList = xs.toList.take i ++ xs.toList.drop (i + 1) := by
  unfold SetTable.eraseAt
  simp [Array.toList_extract]
  exact List.take_of_length_le (by simp)
section
variable {w : World} {A : Around} {E : Value → Shared → Prop} {s : Shared}
theorem SetEs.erase {es : Array (Int × Value)} {S : Str → Bool} {n i : Nat} {k : Str} (z : SetEs w es S (n + 1)) (hi : i < es.toList.length) (hk : (strKind P0 w).is k es.toList[i].2 = true) :
    SetEs w (SetTable.eraseAt es i) (fun k' => S k' && !decide (k' = k)) n := by
  have hl := erase_list es i
  have hsplit : es.toList = es.toList.take i ++ es.toList[i] :: es.toList.drop (i + 1) := by
    conv => lhs; rw [← List.take_append_drop i es.toList, List.drop_eq_getElem_cons hi]
  have hcount : ∀ k', es.toList.countP (fun e => (strKind P0 w).is k' e.2) = (SetTable.eraseAt es i).toList.countP (fun e => (strKind P0 w).is k' e.2) + if (strKind P0 w).is k' es.toList[i].2 = true then 1 else 0 := fun k' => by
    conv => lhs; rw [hsplit, List.countP_append, List.countP_cons]
    rw [hl, List.countP_append]
    omega
  have hsub : ∀ e ∈ (SetTable.eraseAt es i).toList, e ∈ es.toList := fun e he => by
    rw [hl] at he
    rcases List.mem_append.mp he with he | he
    · exact List.mem_of_mem_take he
    · exact List.mem_of_mem_drop he
  refine ⟨fun e he => z.el e (hsub e he), fun k' => ?_, ?_, fun k' => ?_⟩
  · rw [Bool.and_eq_true, z.mem k']
    constructor
    · rintro ⟨⟨e, he, hp⟩, hne⟩
      have hne : k' ≠ k := by simpa using hne
      have hc := hcount k'
      have hpos : 0 < es.toList.countP (fun e => (strKind P0 w).is k' e.2) := List.countP_pos_iff.mpr ⟨e, he, hp⟩
      have hno : ¬ (strKind P0 w).is k' es.toList[i].2 = true := fun q => hne ((strKind P0 w).inj _ k' k q hk)
      rw [if_neg hno, Nat.add_zero] at hc
      rw [hc] at hpos
      exact List.countP_pos_iff.mp hpos
    · rintro ⟨e, he, hp⟩
      refine ⟨⟨e, hsub e he, hp⟩, ?_⟩
      have hne : k' ≠ k := fun q => by
        subst q
        have hc := hcount k'
        rw [if_pos hk] at hc
        have h1 := z.nd k'
        have h2 : 0 < (SetTable.eraseAt es i).toList.countP (fun e => (strKind P0 w).is k' e.2) := List.countP_pos_iff.mpr ⟨e, he, hp⟩
        omega
      simpa using hne
  · rw [← Array.length_toList, hl, List.length_append, List.length_take, List.length_drop]
    have := z.size
    rw [← Array.length_toList] at this
    omega
  · have := hcount k'
    have h1 := z.nd k'
    omega
theorem fs_discard {a : Addr} {S : Str → Bool} {n m : Nat} {k : Str} {x : Value} {Q : Bool → Shared → Prop} (hkey : (strKind P0 w).is k x = true) (hsc : x.scannable = true) (hS : FSM w s.heap a S (n + 1) m) (hSk : S k = true) (hn : n ≤ 1000)
    (h : ∀ h', Heap.SameBut a s.heap h' → (∃ o es ep t, h'.get? a = some o ∧ Froz o ∧ o.data = .set es ep t ∧ SetEs w es (fun k' => S k' && !decide (k' = k)) n ∧ t.fits n = true ∧ t.mask = m ∧ t.dummies.size = 1) → Q true { s with heap := h' }) :
    wpAny (model P0 w) A (setDiscardHashed a x ((strKind P0 w).hash k)) Q E s := by
  obtain ⟨o, es, ep, t, ho, hf, hd, z, hfit, hmask, hdum⟩ := hS
  have hfit' : t.fits es.size = true := by rw [z.size]; exact hfit
  have hb : es.size < scanBound := by rw [z.size]; show n + 1 < 4096; omega
  unfold setDiscardHashed setFind setFindIn
  refine wpAny_bind (wpAny_bind (wpAny_setState_of ho hd hfit' ?_))
  dsimp only
  rw [byScan_of (knd := strKind P0 w) hsc hb z.el]
  simp only [if_true]
  refine wpAny_bind (wpAny_rule (wpAny_bind (wpAny_setScan_of (knd := strKind P0 w) hkey ho hd hfit' z.el ?_)))
  cases hr : List.findIdx? (fun e => (strKind P0 w).is k e.2) es.toList with
  | none =>
    exfalso
    obtain ⟨e, he, hp⟩ := (z.mem k).mp hSk
    have := List.findIdx?_eq_none_iff.mp hr e he
    rw [hp] at this; exact Bool.noConfusion this
  | some j =>
    dsimp only
    obtain ⟨hj, hpj, _⟩ := List.findIdx?_eq_some_iff_getElem.mp hr
    refine wpAny_pure ?_
    dsimp only
    refine wpAny_bind (wpAny_setState_of ho hd hfit' ?_)
    dsimp only
    have z' := z.erase hj hpj
    have hpl : t.place.size = n + 1 := by
      unfold SetTable.fits at hfit
      exact eq_of_beq (Bool.and_eq_true_iff.mp hfit).1
    have hjn : j < t.place.size := by rw [hpl, ← z.size, ← Array.length_toList]; exact hj
    have hdrop : (t.drop j).mask = m ∧ (t.drop j).place.size = n ∧ (t.drop j).dummies.size = 1 := by
      unfold SetTable.drop
      rw [Array.getElem?_eq_getElem hjn]
      dsimp only
      refine ⟨hmask, ?_, ?_⟩
      · rw [← Array.length_toList, erase_list, List.length_append, List.length_take, List.length_drop, Array.length_toList, hpl]
        omega
      · rw [hdum]
        unfold SetTable.insertAt
        simp
    rw [Nat.zero_add]
    refine wpAny_bind (put_sized ho hd (by rw [z'.size]; omega) ?_)
    refine wpAny_bind (wpAny_point (wpAny_pure ?_))
    refine h _ (Heap.SameBut.update ..) ⟨_, _, ep + 1, _, put_get ho hd _ _, hf, rfl, z', ?_, hdrop.1, hdrop.2.2⟩
    unfold SetTable.fits SetTable.fill at hfit ⊢
    rw [hdrop.1, hdrop.2.1, hdrop.2.2]
    have := of_decide_eq_true (Bool.and_eq_true_iff.mp hfit).2
    rw [hpl, hdum, hmask] at this
    simpa using this
/-- a - b, b of one text that a holds -/
theorem sub_one {l r : Addr} {S S' : Str → Bool} {n m : Nat} {R : Result → Shared → Prop} (hlr : l ≠ r) (hS : FS w s.heap l S (n + 1)) (hS' : FS w s.heap r S' 1) (hn8 : 8 ≤ n) (hnm : n + 1 ≤ m) (hm : Full5 m) (hm8 : 8 ≤ m) (hk : (if (n + 1) * 5 ≥ 21 then SetTable.sizeAbove ((n + 1) * 2) - 1 else 7) = m) (hk2 : SetTable.sizeAbove ((n + 1) * 2) ≤ 1000) (hn2 : n ≤ 900) (hin : ∀ k, S' k = true → S k = true)
    (h : ∀ s', Grown 1 s s' → FS w s'.heap s.heap.objs.size (fun k => S k && !S' k) n → R (.ok (.ret (.ref s.heap.objs.size))) s') :
    wpAny (model P0 w) A.in1 (Builtin.«frozenset.__sub__» ⟨[.ref l, .ref r], []⟩)
      (fun fin s' => match fin with | .done f => R (.ok f) s' | .again c' => c'.quiet = true ∧ codeAny (model P0 w) A c' R s') (fun e s' => R (.error e) s') s := by
  show wpAny _ _ (Builtin.Frozenset.slot1 "__sub__" ⟨[.ref l, .ref r], []⟩ >>= _) _ _ _
  refine wpAny_bind (wpAny_of_eq (a := (Value.ref l, Value.ref r)) rfl ?_)
  dsimp only
  simp only [Bool.false_eq_true, if_false]
  refine wpAny_bind ?_
  show wpAny _ _ (Builtin.Frozenset.isAnySet (.ref l) >>= _) _ _ _
  refine wpAny_bind (any_set hS ?_)
  show wpAny _ _ (Builtin.Frozenset.isAnySet (.ref r)) _ _ _
  refine any_set hS' ?_
  simp only [Bool.not_true, Bool.false_eq_true, if_false]
  refine wpAny_bind (wpAny_of_eq (a := l) rfl ?_)
  refine wpAny_bind ?_
  obtain ⟨ol, el, epl, tl, hol, hfl, hdl, zl, hfitl⟩ := id hS
  have hfitl' : tl.fits el.size = true := by rw [zl.size]; exact hfitl
  obtain ⟨or', er, epr, tr, hor, hfr, hdr, zr, hfitr⟩ := id hS'
  have hfitr' : tr.fits er.size = true := by rw [zr.size]; exact hfitr
  unfold Builtin.Frozenset.difference
  refine wpAny_bind (any_set hS' ?_)
  simp only [Bool.not_true, Bool.false_eq_true, if_false, Bool.false_and]
  refine wpAny_bind (wpAny_of_eq (a := r) rfl ?_)
  rw [if_pos trivial]
  unfold Builtin.Frozenset.sizeOf
  refine wpAny_bind (wpAny_bind (wpAny_setEntries_of hor hdr hfitr' (wpAny_pure ?_)))
  refine wpAny_bind (wpAny_bind (wpAny_setEntries_of hol hdl hfitl' (wpAny_pure ?_)))
  rw [zr.size, zl.size, if_pos (by omega)]
  refine wpAny_bind (wpAny_rule ?_)
  refine wpAny_bind (copy_of hS (by omega) hnm hm hk hk2 (by omega) fun h₁ hsz hkp hM => ?_)
  refine wpAny_bind (wpAny_of_eq (a := s.heap.objs.size) rfl ?_)
  refine wpAny_bind (wpAny_holding ?_)
  have hS₁ := hS'.keep (h' := h₁) fun o e => hkp _ o e
  have hor₁ := hkp _ _ hor
  have hrl : r < s.heap.objs.size := Heap.lt_size hor
  have hne2 : s.heap.objs.size ≠ r := Ne.symm (Nat.ne_of_lt hrl)
  unfold Builtin.Frozenset.differenceUpdate
  have hb1 : (Value.ref r == Value.ref s.heap.objs.size) = false := by
    simp only [beq_eq_false_iff_ne, ne_eq, Value.ref.injEq]
    exact fun z => hne2 z.symm
  rw [hb1]
  simp only [Bool.false_eq_true, if_false]
  refine wpAny_bind (any_set (s := { s with heap := h₁ }) hS₁ ?_)
  simp only [if_true]
  refine wpAny_bind (wpAny_of_eq (a := r) rfl ?_)
  unfold Builtin.Frozenset.sizeOf
  obtain ⟨oa, ea, epa, ta, hoa, hfa, hda, za, hfita, hma, hdma⟩ := id hM
  have hfita' : ta.fits ea.size = true := by rw [za.size]; exact hfita
  refine wpAny_bind (wpAny_bind (wpAny_setEntries_of (s := { s with heap := h₁ }) hor₁ hdr hfitr' (wpAny_pure ?_)))
  refine wpAny_bind (wpAny_bind (wpAny_setEntries_of (s := { s with heap := h₁ }) hoa hda hfita' (wpAny_pure ?_)))
  rw [zr.size, za.size, if_neg (by omega)]
  refine wpAny_bind (wpAny_setEpoch_of (s := { s with heap := h₁ }) hor₁ hdr hfitr' ?_)
  refine wpAny_bind (wpAny_holding ?_)
  obtain ⟨k, x, rfl, hkx, hsc, rfl⟩ := one_es zr
  have hSk : S k = true := hin k (by simp)
  refine wpAny_bind (walk_one (s := { s with heap := h₁ }) hor₁ hdr hfitr ?_)
  rw [← Array.forIn_toList]
  show wpAny _ _ (forIn [((strKind P0 w).hash k, x)] PUnit.unit _ >>= _) _ _ _
  rw [List.forIn_cons]
  refine wpAny_bind (wpAny_bind ?_)
  dsimp only
  refine wpAny_bind (wpAny_holding (fs_discard (s := { s with heap := h₁ }) hkx hsc hM hSk (by omega) fun h₂ hsb hD => ?_))
  have hor₂ : h₂.get? r = some or' := (hsb.2 r (Ne.symm hne2)).trans hor₁
  unfold Builtin.Frozenset.unchanged
  refine wpAny_bind (wpAny_bind (wpAny_setEpoch_of (s := { s with heap := h₂ }) hor₂ hdr hfitr ?_))
  rw [if_neg (by simp)]
  refine wpAny_pure ?_
  refine wpAny_pure ?_
  dsimp only
  rw [List.forIn_nil]
  refine wpAny_pure ?_
  refine wpAny_pure ?_
  obtain ⟨od, ed, epd, td, hod, hfd, hdd, zd, hfitd, hmd, hdmd⟩ := hD
  have hfitd' : td.fits ed.size = true := by rw [zd.size]; exact hfitd
  unfold setTidy
  refine wpAny_bind (wpAny_setState_of (s := { s with heap := h₂ }) hod hdd hfitd' ?_)
  dsimp only
  have htidy : td.tooManyDummies = false := by
    unfold SetTable.tooManyDummies
    rw [hdmd, hmd]
    simp only [decide_eq_false_iff_not]
    omega
  rw [htidy]
  simp only [Bool.false_eq_true, if_false]
  refine wpAny_pure ?_
  refine wpAny_pure ?_
  refine wpAny_pure (h _ ⟨hsb.1.trans hsz, fun b o e => (hsb.2 b (Nat.ne_of_lt (Heap.lt_size e))).trans (hkp b o e), rfl, rfl, rfl⟩ ⟨od, ed, epd, td, hod, hfd, hdd, zd, hfitd⟩)
end
end
section
open PySem PySem.W PyProof.Rows PySem.Calls
set_option maxRecDepth 100000
/-- since s₀: k objects more, all but the iterator I, the block's frame C as they stood -/
def Since (I C : Addr) (k : Nat) (s₀ s : Shared) : Prop :=
  ∃ h' tk, s = { s₀ with heap := h', toks := tk } ∧ h'.objs.size = s₀.heap.objs.size + k ∧ ∀ b o, b ≠ I → b ≠ C → s₀.heap.get? b = some o → h'.get? b = some o
theorem Since.refl (I C : Addr) (s : Shared) : Since I C 0 s s := ⟨s.heap, s.toks, rfl, rfl, fun _ _ _ _ e => e⟩
theorem Since.step {I C : Addr} {k j : Nat} {s₀ s : Shared} (x : Since I C k s₀ s) {h' : Heap} {tk : Nat} (hs : h'.objs.size = s.heap.objs.size + j) (hk : ∀ b o, b ≠ I → b ≠ C → s.heap.get? b = some o → h'.get? b = some o) : Since I C (k + j) s₀ { s with heap := h', toks := tk } := by
  obtain ⟨h₁, tk₁, rfl, sz, kp⟩ := x
  refine ⟨h', tk, rfl, ?_, fun b o h1 h2 e => hk b o h1 h2 (kp b o h1 h2 e)⟩
  rw [hs]
  show h₁.objs.size + j = _
  rw [sz]; omega
def protoX (I C T : Addr) (n₀ : Nat) (val : Nat → Str) : Protocol := fun m s₀ v s kap =>
  (∃ t, v = .str (val (n₀ - 1 - m)) t) ∧ Since I C 0 s₀ s ∧ ∀ s'' : Shared, (∀ b o, b ≠ T → s.heap.get? b = some o → s''.heap.get? b = some o) → kap (.send .none) s''
def endX (I C : Addr) : GenEnd := fun n s₀ r s₁ => r = .ok .next ∧ (n = 0 ∧ Since I C 2 s₀ s₁)
section
variable {w : World} {A : Around}
/-- the names that chr(i) asks, and the block's own -/
theorem seg_gen {elt iter : Expr} {x : Str} {px : Pos} {scope : Scope} {pos : Pos} {I C T : Addr} {n₀ : Nat} {val : Nat → Str} {cenv : Env} {K : Heap → Prop} (hh : A.handled = none) (hC : cenv.locals = C)
    (hx : cenv.kindOf x = some .local) (hp : (cenv.scope.kind == .class || (cenv.scope.kind == .module && cenv.locals != cenv.globals)) = false) (hco : cenv.scope.isCoroutine = false) (hIC : I ≠ C) (hIT : I ≠ T) (hCT : C ≠ T)
    (hK : ∀ h h' : Heap, K h → (∀ b o, b ≠ I → b ≠ C → b ≠ T → h.get? b = some o → h'.get? b = some o) → K h')
    (helt : ∀ (A' : Around) (E' : Value → Shared → Prop) (i : Nat) (t : Tok) (s₂ : Shared) (m₂ : Str → Option Value) (Q : Value → Shared → Prop), i < n₀ → K s₂.heap → s₂.heap.Ns C m₂ → m₂ x = some (.int (i : Int) t) →
      (∀ t' tk, Q (.str (val i) t') { s₂ with toks := tk }) → wpAny (model P0 w) A' (eval elt cenv) Q E' s₂) :
    ∀ (k i : Nat) (s₀ s : Shared) (m : Str → Option Value), n₀ - i = k → i ≤ n₀ → IsRangeIter s.heap I (i : Int) ((n₀ : Int) - (i : Nat)) 1 → s.heap.Ns C m → K s.heap → Since I C 0 s₀ s →
      Seg (model P0 w) A (endX I C) (protoX I C T n₀ val) (n₀ - i) s₀ (.compLoop (.GeneratorExp elt [⟨.Name x px, iter, [], 0⟩] scope pos) 0 (.ref I) .none cenv)
        ((model P0 w).den (.compLoop (.GeneratorExp elt [⟨.Name x px, iter, [], 0⟩] scope pos) 0 (.ref I) .none cenv)) [] s := by
  subst hC
  have hh' : (A.over (.compLoop (.GeneratorExp elt [⟨.Name x px, iter, [], 0⟩] scope pos) 0 (.ref I) .none cenv) []).handled = none := hh
  intro k
  induction k with
  | zero =>
    intro i s₀ s m hk hi hit hn hKs hsi
    obtain rfl : i = n₀ := by omega
    rw [Nat.sub_self]
    show Seg _ A _ _ _ s₀ _ ((compTurn (.GeneratorExp elt [⟨.Name x px, iter, [], 0⟩] scope pos) 0 (.ref I) .none cenv).onRaise (leaving cenv)) [] s
    rw [compTurn_gen, Sem.onRaise_eq_wrap]
    refine seg_bind_wrap (wpAny_standAt ?_)
    refine seg_bind_wrap (range_end hh' hit (by omega) fun h' hg => ?_)
    exact seg_end (.ok .next) ⟨rfl, rfl, by have := hsi.step (h' := h') (tk := s.toks) (j := 2) hg.1 fun b o h1 _ e => hg.2 b o h1 e; exact this⟩
  | succ k ih =>
    intro i s₀ s m hk hi hit hn hKs hsi
    have hlt : i < n₀ := by omega
    show Seg _ A _ _ _ s₀ _ ((compTurn (.GeneratorExp elt [⟨.Name x px, iter, [], 0⟩] scope pos) 0 (.ref I) .none cenv).onRaise (leaving cenv)) [] s
    rw [compTurn_gen, Sem.onRaise_eq_wrap]
    refine seg_bind_wrap (wpAny_standAt ?_)
    refine seg_bind_wrap (wpAny_pyNext_range_item hit (by omega) fun h₁ it₁ x₁ => ?_)
    refine seg_bind_wrap (wpAny_of_eq (rfl : letOwnedTupleGo (.Name x px) (.ref I) _ = pure ()) ?_)
    refine seg_bind_wrap (wpAny_assign_Name (wpAny_storeName_local (s := { s with heap := h₁, toks := _ }) hx (hn.sameBut x₁ (Ne.symm hIC)) (fun h₂ hn₂ x₂ => ?_) hp))
    have up₂ : ∀ b o, b ≠ I → b ≠ cenv.locals → s.heap.get? b = some o → h₂.get? b = some o := fun b o h1 h2 e => (x₂.2 b h2).trans ((x₁.2 b h1).trans e)
    have it₂ : IsRangeIter h₂ I ((i : Int) + 1) ((n₀ : Int) - (i : Nat) - 1) 1 := (x₂.2 I hIC).trans it₁
    have K₂ : K h₂ := hK _ _ hKs fun b o h1 h2 _ e => up₂ b o h1 h2 e
    have sz₂ : h₂.objs.size = s.heap.objs.size + 0 := by rw [x₂.1, x₁.1]; rfl
    refine seg_bind_wrap (wpAny_tests_nil ?_)
    simp only [if_true]
    have hy : ∀ v, yieldOut cenv v = yieldValue v := fun v => by simp only [yieldOut, hco, Bool.false_eq_true, if_false]
    simp only [hy]
    rw [Sem.bind_eq_wrap', Sem.bind_eq_wrap', Sem.wrap_wrap, Sem.wrap_wrap]
    refine seg_wrap (helt _ _ i _ { s with heap := h₂, toks := _ } _ _ hlt K₂ hn₂ (if_pos rfl) fun t' tk' => ?_)
    have hN : n₀ - i = (n₀ - (i + 1)) + 1 := by omega
    rw [hN]
    have hidx : n₀ - 1 - (n₀ - (i + 1)) = i := by omega
    refine seg_at (seg_yield rfl rfl rfl ⟨⟨t', by rw [hidx]⟩, hsi.step (h' := h₂) (tk := tk') sz₂ up₂, fun s'' hal => ?_⟩)
    have e1 : ((i + 1 : Nat) : Int) = (i : Int) + 1 := by omega
    have e2 : (n₀ : Int) - ((i + 1 : Nat) : Int) = (n₀ : Int) - (i : Nat) - 1 := by omega
    refine seg_again rfl (ih (i + 1) s'' s'' _ (by omega) hlt ?_ (hn₂.at' fun o e => hal _ o hCT e) (hK _ _ K₂ fun b o _ _ h3 e => hal b o h3 e) (Since.refl _ _ _))
    rw [e1, show (n₀ : Int) - ((i : Int) + 1) = (n₀ : Int) - (i : Nat) - 1 by omega]
    exact hal I _ hIT it₂
end
end
section
open PySem PySem.W PyProof.Rows PySem.Calls
set_option maxRecDepth 100000
section
variable {w : World} {A : Around} {E : Value → Shared → Prop} {s : Shared}
theorem next_gen {a : Addr} {g n : Nat} {gs : GenState} {P : Nat → Shared → Shared → Prop} {Y : Protocol} {Q : Option Value → Shared → Prop} (hh : A.handled = none)
    (hl : s.heap.NoLimit) (hroom : A.depth < recursionLimit)
    (hg : s.heap.IsGen a g) (hgs : s.gens[g]? = some gs)
    (hgo : gs.Goes (model P0 w) A.in1 (fun n s₀ r s₁ => r = .ok .next ∧ P n s₀ s₁) Y n (.send .none) (s.setGen g .running))
    (hY : ∀ v s₁ gs', Y (n - 1) (s.setGen g .running) v s₁ (fun r' s'' => match n with
        | 0 => False
        | m + 1 => gs'.Goes (model P0 w) A.in1 (fun n s₀ r s₁ => r = .ok .next ∧ P n s₀ s₁) Y m r' s'') → Q (some v) (s₁.setGen g gs'))
    (hP : ∀ s₁, P n (s.setGen g .running) s₁ → ∀ h', h'.objs.size = s₁.heap.objs.size + 2 → (∀ b o, s₁.heap.get? b = some o → h'.get? b = some o) → Q none { s₁.setGen g .finished with heap := h' }) :
    wpAny (model P0 w) A (pyNext (.ref a)) Q E s := by
  unfold pyNext
  refine wpAny_bind (wpAny_attempt (wpAny_callSpecial?_slot (name := Str.ofString "__next__") hg.typeIs slot_gen_next
    (wpAny_call_entry slot_gen_next hg.typeIs entry_gen_next ?_ (args_gen_next _))))
  show wpAny _ A.in1 (Builtin.Generator.genWake (.ref a) (.send .none)) _ _ s
  unfold Builtin.Generator.genWake
  refine wpAny_bind (wpAny_holding (wpAny_genNumber hg (wpAny_bind (wpAny_genState hgs ?_))))
  cases gs with
  | running => exact hgo.elim
  | finished => exact hgo.elim
  | _ =>
    refine wpAny_bind (wpAny_roomToWake hl hroom ?_)
    show wpAny _ A.in1 (.resume g (.send .none) [] _) _ _ s
    refine wpAny_resume hgs hgo (fun x s₁ hx => ?_) (fun v s₁ gs' hv => ?_)
    · obtain ⟨rfl, hp⟩ := hx
      show wpAny _ A.in1 (newExc (.type "StopIteration") [] >>= _) _ _ _
      refine wpAny_bind ?_
      simp only [newExc, newTuple]
      refine wpAny_bind (wpAny_newObj_type ?_ (by size_fits))
      refine wpAny_bind (m := firstArgMember _ _) (wpAny_of_eq (a := Value.none) (by first | rfl | (simp only [firstArgMember]; rfl)) ?_)
      refine wpAny_newObj_type ?_ (by size_fits)
      simp only [raiseNew]
      refine wpAny_bind (wpAny_bind (wpAny_handled ?_))
      first | rw [show A.in1.handled = none from hh] | rw [hh]
      refine wpAny_throw ?_
      refine wpAny_bind (wpAny_isInstance (T := "StopIteration") (b := true) ⟨_, Heap.get?_push_size _ rfl, rfl⟩ isSubtype_stop ?_)
      refine wpAny_pure (hP s₁ hp _ ?_ fun b o hb => Heap.get?_push_of_some _ (Heap.get?_push_of_some _ hb))
      show (Heap.push _ _).objs.size = _
      rw [Heap.size_push]
      show (Heap.push _ _).objs.size + 1 = _
      rw [Heap.size_push]
      rfl
    · exact wpAny_pure ⟨v, rfl, wpAny_pure (hY v s₁ gs' hv)⟩
/-- the generator while the set T grows; b: the state at the call -/
def StX (w : World) (A : Around) (I C T a : Addr) (g n₀ : Nat) (val : Nat → Str) (b : Shared) (i : Nat) (s : Shared) : Prop :=
  s.heap.IsGen a g ∧ s.heap.objs.size = b.heap.objs.size + 1 ∧ (∀ q o, q ≠ I → q ≠ C → b.heap.get? q = some o → s.heap.get? q = some o) ∧ s.drawn = b.drawn ∧ s.os = b.os ∧ GenOnly g b.gens s.gens ∧ ∃ gs, s.gens[g]? = some gs ∧
    ∀ s'' : Shared, (∀ q o, q ≠ T → s.heap.get? q = some o → s''.heap.get? q = some o) → gs.Goes (model P0 w) A.in1 (endX I C) (protoX I C T n₀ val) (n₀ - i) (.send .none) s''
structure FinX (I C : Addr) (g : Nat) (b s : Shared) : Prop where
  sz : s.heap.objs.size = b.heap.objs.size + 5
  kp : ∀ q o, q ≠ I → q ≠ C → b.heap.get? q = some o → s.heap.get? q = some o
  dr : s.drawn = b.drawn
  os : s.os = b.os
  ge : GenOnly g b.gens s.gens
  fi : s.gens[g]? = some .finished
theorem walks_gen {I C T a : Addr} {g n₀ : Nat} {val : Nat → Str} {b : Shared} (hh : A.handled = none) (hroom : A.depth < recursionLimit) (hbT : b.heap.get? T = none) (haT : a ≠ T) (haI : a ≠ I) (haC : a ≠ C) (hIT : I ≠ T) (hCT : C ≠ T)
    (hl : ∃ mc, b.heap.Ns cStatics mc ∧ ∀ h : Heap, h.Ns cStatics mc → h.NoLimit) (hcI : cStatics ≠ I) (hcC : cStatics ≠ C) :
    WalksZ w A a T n₀ val (StX w A I C T a g n₀ val b) (FinX I C g b) where
  frame := fun i s h' tk st hsb => by
    obtain ⟨hg, hsz, hkp, hd, ho, hge, gs, hgs, hgo⟩ := st
    refine ⟨let ⟨o, nm, qn, e, r⟩ := hg; ⟨o, nm, qn, (hsb.2 a haT).trans e, r⟩, hsb.1.trans hsz, fun q o h1 h2 e => (hsb.2 q (fun z => by rw [z, hbT] at e; cases e)).trans (hkp q o h1 h2 e), hd, ho, hge, gs, hgs, fun s'' hal => hgo s'' fun q o h1 e => hal q o h1 ((hsb.2 q h1).trans e)⟩
  item := fun i s Q E hi st hQ => by
    obtain ⟨hg, hsz, hkp, hd, ho, hge, gs, hgs, hgo⟩ := st
    obtain ⟨m, hm⟩ : ∃ m, n₀ - i = m + 1 := ⟨n₀ - i - 1, by omega⟩
    rw [hm] at hgo
    obtain ⟨mc, hns, hnl⟩ := hl
    refine next_gen (P := fun n s₀ s₁ => n = 0 ∧ Since I C 2 s₀ s₁) hh (hnl _ (hns.at' fun o e => hkp _ o hcI hcC e)) hroom hg hgs (hgo (s.setGen g .running) fun _ _ _ e => e) (fun v s₁ gs' hv => ?_) (fun s₁ hp h' _ _ => ?_)
    · obtain ⟨⟨t, rfl⟩, ⟨h₁, tk₁, rfl, hs₁, hk₁⟩, hkap⟩ := hv
      have hidx : n₀ - 1 - (m + 1 - 1) = i := by omega
      rw [hidx]
      refine hQ t _ ⟨let ⟨o, nm, qn, e, r⟩ := hg; ⟨o, nm, qn, hk₁ a o haI haC e, r⟩, by rw [show (Shared.setGen _ g gs').heap.objs.size = h₁.objs.size from rfl, hs₁]; exact hsz, fun q o h1 h2 e => hk₁ q o h1 h2 (hkp q o h1 h2 e), hd, ho,
        hge.trans ((GenOnly.setGen s g .running).trans (GenOnly.setGen _ g gs')), gs', setGen_self (gs := .running) (setGen_self hgs), fun s'' hal => ?_⟩ fun o e => hk₁ T o (Ne.symm hIT) (Ne.symm hCT) e
      rw [show n₀ - (i + 1) = m by omega]
      exact hkap s'' hal
    · exact absurd hp.1 (Nat.succ_ne_zero m)
  done := fun s Q E st hQ => by
    obtain ⟨hg, hsz, hkp, hd, ho, hge, gs, hgs, hgo⟩ := st
    rw [Nat.sub_self] at hgo
    obtain ⟨mc, hns, hnl⟩ := hl
    refine next_gen (P := fun n s₀ s₁ => n = 0 ∧ Since I C 2 s₀ s₁) hh (hnl _ (hns.at' fun o e => hkp _ o hcI hcC e)) hroom hg hgs (hgo (s.setGen g .running) fun _ _ _ e => e) (fun v s₁ gs' hv => ?_) (fun s₁ hp h' hs' hk' => ?_)
    · obtain ⟨_, _, hkap⟩ := hv
      exact False.elim (hkap s₁ fun _ _ _ e => e)
    · obtain ⟨_, h₁, tk₁, rfl, hs₁, hk₁⟩ := hp
      refine hQ _ ⟨?_, fun q o h1 h2 e => hk' q o (hk₁ q o h1 h2 (hkp q o h1 h2 e)), hd, ho, hge.trans ((GenOnly.setGen s g .running).trans (GenOnly.setGen _ g .finished)), setGen_self (gs := .running) (setGen_self hgs)⟩ fun o e => hk' T o (hk₁ T o (Ne.symm hIT) (Ne.symm hCT) e)
      show h'.objs.size = _
      rw [hs']
      show h₁.objs.size + 2 = _
      rw [hs₁]
      show s.heap.objs.size + 2 + 2 = _
      rw [hsz]
end
end
section
open PySem PySem.W PyProof.Rows PySem.Calls
set_option maxRecDepth 100000
section
variable {w : World} {A : Around} {E : Value → Shared → Prop} {s : Shared}
theorem froz_gen {elt iter : Expr} {x : Str} {px : Pos} {scope : Scope} {pos : Pos} {I C a : Addr} {g n₀ : Nat} {val : Nat → Str} {cenv : Env} {K : Heap → Prop} {m : Str → Option Value} {Q : Value → Shared → Prop} (hh : A.handled = none) (hroom : A.depth < recursionLimit) (hC : cenv.locals = C)
    (hx : cenv.kindOf x = some .local) (hp : (cenv.scope.kind == .class || (cenv.scope.kind == .module && cenv.locals != cenv.globals)) = false) (hco : cenv.scope.isCoroutine = false) (hIC : I ≠ C) (haI : a ≠ I) (haC : a ≠ C)
    (hK : ∀ h h' : Heap, K h → (∀ b o, b ≠ I → b ≠ C → b ≠ s.heap.objs.size → h.get? b = some o → h'.get? b = some o) → K h')
    (helt : ∀ (A' : Around) (E' : Value → Shared → Prop) (i : Nat) (t : Tok) (s₂ : Shared) (m₂ : Str → Option Value) (Q : Value → Shared → Prop), i < n₀ → K s₂.heap → s₂.heap.Ns C m₂ → m₂ x = some (.int (i : Int) t) →
      (∀ t' tk, Q (.str (val i) t') { s₂ with toks := tk }) → wpAny (model P0 w) A' (eval elt cenv) Q E' s₂)
    (hl : ∃ mc, s.heap.Ns cStatics mc ∧ ∀ h : Heap, h.Ns cStatics mc → h.NoLimit) (hcI : cStatics ≠ I) (hcC : cStatics ≠ C)
    (hg : s.heap.IsGen a g) (hgs : s.gens[g]? = some (.fresh (.compStart (.GeneratorExp elt [⟨.Name x px, iter, [], 0⟩] scope pos) 0 (.ref I) .none cenv)))
    (hit : IsRangeIter s.heap I 0 (n₀ : Int) 1) (hn : s.heap.Ns C m) (hKs : K s.heap) (hn0 : n₀ ≤ 1000) (hval : ∀ i, i < n₀ → firsts val i (val i) = false)
    (h : ∀ s', FinX I C g s s' → FS w s'.heap s.heap.objs.size (firsts val n₀) n₀ → Q (.ref s.heap.objs.size) s') :
    wpAny (model P0 w) A (call (.type "frozenset") [.ref a]) Q E s := by
  have hIlt : I < s.heap.objs.size := Heap.lt_size hit
  have hClt : C < s.heap.objs.size := let ⟨_, _, _, e, _⟩ := hn; Heap.lt_size e
  have halt : a < s.heap.objs.size := let ⟨_, _, _, e, _⟩ := hg; Heap.lt_size e
  have hIT : I ≠ s.heap.objs.size := Nat.ne_of_lt hIlt
  have hCT : C ≠ s.heap.objs.size := Nat.ne_of_lt hClt
  have haT : a ≠ s.heap.objs.size := Nat.ne_of_lt halt
  refine callType_newIn FF.called (by decide) (FF.typeCall_1 _) (FF.newCall_1 _) (fun obj => F.args_object_init_2 obj _) FF.entry_new
    (S := fun A' R s₀ => A'.handled = none ∧ A'.depth < recursionLimit ∧ s₀ = s ∧ ∀ s', FinX I C g s s' → FS w s'.heap s.heap.objs.size (firsts val n₀) n₀ → R (.ok (.ret (.ref s.heap.objs.size))) s') ?_ ⟨hh, hroom, rfl, fun s' gr f => ⟨f.typeIs, h s' gr f⟩⟩
  rintro A' R s₀ ⟨hA', hr', rfl, hR⟩
  refine froz_new (ty := "generator") FF.gen_set FF.gen_froz (by decide) (by decide) (fun s₁ k => Heap.IsGen.typeIs (hg.keeps k)) fun o led ho hF E' => ?_
  refine wpAny_pyIter_gen (hg.push o) ?_
  have up : ∀ b o', s₀.heap.get? b = some o' → (s₀.heap.push o).get? b = some o' := fun b o' e => Heap.get?_push_of_some _ e
  refine update_loop (A := A'.in1) (walks_gen (w := w) (A := A'.in1.in1) (I := I) (C := C) (g := g) (b := s₀) hA' hr' (Heap.get?_none_of_le (Nat.le_refl _)) haT haI haC hIT hCT hl hcI hcC) hn0 hval n₀ 0 _ rfl (Nat.zero_le _) ?_ hF fun s' gr hS => ⟨rfl, hR s' gr hS⟩
  refine ⟨hg.push o, Heap.size_push .., fun q o' _ _ e => up q o' e, rfl, rfl, ⟨rfl, fun _ _ => rfl⟩, _, hgs, fun s'' hal => ⟨rfl, ?_⟩⟩
  have hit'' : IsRangeIter s''.heap I 0 (n₀ : Int) 1 := hal I _ hIT (up _ _ hit)
  have hn'' : s''.heap.Ns C m := hn.at' fun o' e => hal _ o' hCT (up _ _ e)
  have hK'' : K s''.heap := hK _ _ hKs fun b o' _ _ h3 e => hal b o' h3 (up _ _ e)
  have loop := seg_gen (w := w) (A := A'.in1.in1.in1) (iter := iter) (px := px) (scope := scope) (pos := pos) (T := s₀.heap.objs.size) (K := K) hA' hC hx hp hco hIC hIT hCT hK helt n₀ 0 s'' s'' m (Nat.sub_zero _) (Nat.zero_le _) (by simpa using hit'') hn'' hK'' (Since.refl _ _ _)
  have hh' : (A'.in1.in1.in1.over (.compStart (.GeneratorExp elt [⟨.Name x px, iter, [], 0⟩] scope pos) 0 (.ref I) .none cenv) []).handled = none := hA'
  show Seg _ _ _ _ _ s'' _ ((compStart (.GeneratorExp elt [⟨.Name x px, iter, [], 0⟩] scope pos) 0 (.ref I) .none cenv).onRaise (leaving cenv)) [] s''
  unfold compStart
  rw [Sem.onRaise_eq_wrap]
  show Seg _ _ _ _ _ s'' _ ((ask >>= _).wrap _ _ _ _) [] s''
  refine seg_bind_wrap (wpAny_askSetting ?_)
  have selfI : ∀ {A₀ : Around} {Q₀ : Value → Shared → Prop} {E₀ : Value → Shared → Prop}, A₀.handled = none → Q₀ (.ref I) s'' → wpAny (model P0 w) A₀ (pyIter (.ref I)) Q₀ E₀ s'' := fun hA₀ hq => (Walks.range hA₀ I 0 1 n₀).self 0 s'' _ _ (by simpa using hit'') hq
  split
  · exact seg_again rfl loop
  · first
      | exact seg_bind_wrap (wpAny_rule (seg_bind_wrap (wpAny_standAt (seg_bind_wrap (selfI hh' (seg_again rfl loop))))))
      | (refine seg_bind_wrap (wpAny_rule ?_); show Seg _ _ _ _ _ s'' _ ((standAt iter.pos >>= _).wrap _ _ _ _) [] s''; exact seg_bind_wrap (wpAny_standAt (seg_bind_wrap (selfI hh' (seg_again rfl loop)))))
end
end
section
open PySem PySem.W PyProof.Rows PySem.Calls
set_option maxRecDepth 100000
/-- n steps of the ideal machine -/
def goI (tb : String → Option Builtin) (p : Program) (w : World) : Nat → Shared → Thread → Option (Shared × Thread)
  | 0, s, t => some (s, t)
  | n + 1, s, t => match stepI (denote tb) p w s t with
    | .go s' t' => goI tb p w n s' t'
    | .halt _ _ => none
abbrev RT (w : World) (s : Shared) (t : Thread) (s' : Shared) (e : End) : Prop := Reach (model P0 w) [] s t.cur t.code t.pos t.stack s' e
theorem goI_reach {w : World} : ∀ {n : Nat} {s s' sE : Shared} {t t' : Thread} {e : End}, goI treeTable P0 w n s t = some (s', t') → RT w s' t' sE e → RT w s t sE e
  | 0, s, s', sE, t, t', e, h, k => by
    obtain ⟨rfl, rfl⟩ : s = s' ∧ t = t' := by simpa [goI] using h
    exact k
  | n + 1, s, s', sE, t, t', e, h, k => by
    unfold goI at h
    cases hs : stepI (denote treeTable) P0 w s t with
    | halt o s₂ => rw [hs] at h; cases h
    | go s₂ t₂ =>
      rw [hs] at h
      refine Reach.step (t₁ := t₂.cur) (c₁ := t₂.code) (p₁ := t₂.pos) (pre₁ := t₂.stack) ?_ (goI_reach h k)
      rw [List.append_nil, List.append_nil]
      show stepI (denote table) P0 w s t = .go s₂ t₂
      rw [table_eq_tree]
      exact hs
theorem reach_call {w : World} {A : Around} {s sE : Shared} {f : Value} {args : List Value} {g : Bool} {l : List Value} {k : Result → Sem Fin} {code : Code} {pos : Pos} {st : List Frame} {e : End} {Q : Value → Shared → Prop} (hΓ : (Ctx.of code st).In A)
    (hw : wpAny (model P0 w) A (call f args) Q (fun _ _ => False) s) (hk : ∀ v s₁, Q v s₁ → RT w s₁ ⟨k (.ok (.ret v)), code, pos, st⟩ sE e) : RT w s ⟨.call (.call f ⟨args, []⟩) none g l k, code, pos, st⟩ sE e := by
  have h0 := hw (Ctx.of code st) pos hΓ
  have h1 : Sem.wp (model P0 w) (Ctx.of code st) (runValue (.call f ⟨args, []⟩)) (fun a _ s' => Q a s') (fun _ _ _ => False) pos s := h0
  rw [Sem.wp_runValue] at h1
  obtain ⟨r, s₁, hret, hR⟩ := h1
  match r, hret, hR with
  | .ok (.ret v), hret, hR =>
    have hr := runs_reach hret (.ret k none g l code pos [] :: st) ((Ctx.fits_of code st).enter (.call f ⟨args, []⟩) k none g l pos [])
    refine Reach.step (t₁ := (model P0 w).den (.call f ⟨args, []⟩)) (c₁ := .call f ⟨args, []⟩) (p₁ := pos) (pre₁ := .ret k none g l code pos [] :: st) (s₁ := s) rfl ?_
    have hr' : Reach (model P0 w) ((.ret k none g l code pos [] :: st) ++ []) s ((model P0 w).den (.call f ⟨args, []⟩)) (.call f ⟨args, []⟩) pos [] s₁ (.ret (.ok (.ret v))) := by rw [List.append_nil]; exact hr
    have := Reach.under (base := []) (B := .ret k none g l code pos [] :: st) (s' := sE) (e := e) hr' ?_
    · exact this
    · rintro t' c' p' pre' ⟨rfl, rfl⟩
      refine Reach.step (t₁ := k (.ok (.ret v))) (c₁ := code) (p₁ := pos) (pre₁ := st) (s₁ := s₁) rfl ?_
      exact hk v s₁ hR
  | .ok .next, _, hR => exact hR.elim
  | .ok .brk, _, hR => exact hR.elim
  | .ok .cont, _, hR => exact hR.elim
  | .error e, _, hR => exact hR.elim
end
section
open PySem PySem.W PyProof.Rows PySem.Calls
set_option maxRecDepth 100000
theorem halt_through {M : Model} {s s' : Shared} {t : Thread} {f : Flow} (hl : t.loud = false) (h : PySem.step M.den M.prog M.w s t = .halt (.done f) s') : through t = true ∧ s = s' := by
  refine ⟨?_, (step_halt_same M.den M.prog M.w s s' t _ h).symm⟩
  have e := stepK_forget M.den M.prog M.w s t
  rw [h] at e
  have hi := stepI_quiet M.den M.prog M.w (s := s) hl
  cases hk : stepK M.den M.prog M.w s t with
  | go s₂ t₂ => rw [hk] at e; cases e
  | halt o s₂ =>
    rw [hk] at e hi
    simp only [Step.forget, Step.halt.injEq] at e
    obtain ⟨rfl, _⟩ := e
    obtain ⟨cur, c, p, st⟩ := t
    obtain ⟨e1, e2, _⟩ := step_halt_result (M := M) (r := .ok f) hi
    subst e1; subst e2
    rfl
theorem run_last {M : Model} : ∀ {n : Nat} {s s' : Shared} {t : Thread} {f : Flow}, (∀ k s₁ t₁, runN M.den M.prog M.w k s t = .running s₁ t₁ → t₁.calm = true) → runN M.den M.prog M.w n s t = .halted (.done f) s' → ∃ k t', runN M.den M.prog M.w k s t = .running s' t' ∧ through t' = true
  | 0, _, _, _, _, _, h => by cases h
  | n + 1, s, s', t, f, hc, h => by
    simp only [runN] at h
    have hl : t.loud = false := by
      have := hc 0 s t rfl
      rw [Thread.calm_eq] at this
      exact Bool.not_eq_true' _ |>.mp (Bool.and_eq_true_iff.mp this).1
    cases hs : PySem.step M.den M.prog M.w s t with
    | go s₂ t₂ =>
      rw [hs] at h
      obtain ⟨k, t', e, ht⟩ := run_last (fun k s₁ t₁ q => hc (k + 1) s₁ t₁ (by simp only [runN, hs]; exact q)) h
      exact ⟨k + 1, t', by simp only [runN, hs]; exact e, ht⟩
    | halt o s₂ =>
      rw [hs] at h
      cases h
      obtain ⟨ht, rfl⟩ := halt_through hl hs
      exact ⟨0, t, rfl, ht⟩
section
variable {den : Code → Sem Fin} {p : Program} {w : World}
theorem sched_run : ∀ {n : Nat} {s s' : Shared} {t t' : Thread}, s.asleep → (∀ k s₁ t₁, runN den p w k s t = .running s₁ t₁ → t₁.calm = true) → runN den p w n s t = .running s' t' → schedN den p w n (.single s t) = .running (.single s' t') ∧ s'.heap.life = s.heap.life
  | 0, s, s', t, t', hz, hc, h => by cases h; exact ⟨rfl, rfl⟩
  | n + 1, s, s', t, t', hz, hc, h => by
    simp only [runN] at h
    cases hs : step den p w s t with
    | halt o s₂ => rw [hs] at h; cases h
    | go s₂ t₂ =>
      rw [hs] at h
      have hl := step_life den p w s s₂ t t₂ hs
      obtain ⟨a, b⟩ := sched_run (Shared.asleep_of_life hl hz) (fun k s₁ t₁ q => hc (k + 1) s₁ t₁ (by simp only [runN, hs]; exact q)) h
      have e : sstep den p w (.single s t) = .go (.single s₂ t₂) := by
        rcases sstep_single den p w s t (hc 0 s t rfl) hz with e | e
        · rw [e, hs]; rfl
        · rw [hs] at e; cases e
      exact ⟨by simp only [schedN, e]; exact a, b.trans hl⟩
end
theorem ran_of {w : World} {s₀ s₁ : Shared} {f : Flow} (h : RT w s₀ (topStub P0) s₁ (.ret (.ok f))) (hz : s₀.asleep) (hg : leftWithCleanup s₁.gens = false) (hn : s₁.NoSusp) :
    (∃ n t, schedN (denote table) P0 w n (.single s₀ (topStub P0)) = .running (.single s₁ t) ∧ through t = true) ∧ s₁.heap.life = s₀.heap.life := by
  have hr := runs_iff_reach.mpr h
  obtain ⟨n, hrun⟩ := halts_iff.mpr ⟨hr, hg⟩
  obtain ⟨s₂, hreal, hf, hc⟩ := runNI_real _ _ _ hrun (outcomeOf_ends (.ok f))
  obtain rfl := Shared.eq_of_forget_eq' hf hn
  obtain ⟨k, t', e, ht⟩ := run_last (M := model P0 w) hc hreal
  obtain ⟨a, b⟩ := sched_run hz hc e
  exact ⟨⟨k, t', a, ht⟩, b⟩
end
section
open PySem PySem.W PyProof.Rows PySem.Calls
set_option maxRecDepth 100000
def envT : Env := { scope := P0.main.scope, locals := 3, globals := 3, cells := [], code := .ref 13, frame := some 14 }
def bodyT : List Stmt := P0.main.body
def codeT : Code := .body bodyT envT
def ent (P : Params) (x : Str) (t : Tok) (v : Value) : DictEntry := ⟨PyData.keyHash P x, .str x t, v⟩
def setName (o : Obj) (v : Value) (more : List DictEntry) (n : Nat) : Obj := match o with
  | ⟨c, d, .dict es _, sl⟩ => ⟨c, d, .dict ((match es.toList with | e :: r => { e with val := v } :: r | [] => []) ++ more).toArray n, sl⟩
  | o => o
/-- the module's names: its own name's token, what has been bound -/
noncomputable def mainO (P : Params) (n : Nat) (more : List DictEntry) (ep : Nat) : Obj := setName (boot_o_3 P) (.str "cpy313.tomllib._parser" n) more ep
def o11 : Obj := { cls := .type "tuple", data := .seq #[] }
def o12 (xs : List Value) : Obj := { cls := .none, data := .fields xs.toArray }
def o13 : Obj := { cls := .type "code", data := .fields #[.str "<module>" 182, .str "<module>" 183, .str "/claim/cut.py" 184, .int 1 0, .int 0 0, .int 0 0, .int 0 0, .int 0 0, .ref 11, .bool false, .int 181 0, .ref 12, .none, .none, .none, .none, .int 185 0, .int 1 0, .str "/claim/cut.py" 186] }
def o14 (n : Nat) : Obj := { cls := .type "frame", slots := #[some (.ref 13), some (.ref 3), some (.ref 3), none, some (.str "__main__" n), none, some (.ref 0)] }
noncomputable def hpT (P : Params) (life : Life) (o3 : Obj) (xs : List Obj) : Heap :=
  ⟨(boot_o_0 P :: boot_o_1 P :: boot_o_2 P :: o3 :: boot_o_4 P :: boot_o_5 P :: boot_o_6 P :: boot_o_7 P :: boot_o_8 P :: boot_o_9 P :: boot_o_10 P :: o11 :: o12 [.int 2 0, .int 23 0, .ref 19] :: o13 :: o14 164 :: xs).toArray, life⟩
def callK : Sem Fin → Result → Sem Fin
  | .call _ _ _ _ k => k
  | t => fun _ => t
noncomputable def bootS (w : World) (os : OsState) : Shared := ⟨boot_heap w.params, #[], boot_drawn, boot_toks, os⟩
def thr (r : Option (Shared × Thread)) : Thread := match r with
  | some x => x.2
  | none => ⟨.unsupported "", .builtin "" {}, default, []⟩
def asgVal : Stmt → Expr
  | .Assign _ v _ => v
  | _ => .Constant .none 0 default
def binL : Expr → Expr
  | .BinOp l _ _ _ => l
  | e => e
def callArg0 : Expr → Expr
  | .Call _ (a :: _) _ _ => a
  | e => e
def gexp : Expr := callArg0 (binL (asgVal (stmtAt 1)))
def gScope : Expr → Scope
  | .GeneratorExp _ _ sc _ => sc
  | _ => P0.main.scope
def cenvT : Env := genEnv (gScope gexp) [] 20 (.ref 19) 0 envT
def o15 : Obj := { cls := .type "range", data := .fields #[.int 0 190, .int 32 189, .int 1 191] }
def o16 : Obj := { cls := .type "range_iterator", data := .fields #[.int 0 0, .int 32 0, .int 1 0] }
def o17 : Obj := { cls := .type "tuple", data := .seq #[] }
def o18 : Obj := { cls := .none, data := .fields #[] }
def o20 (P : Params) : Obj := { cls := .type "frame", data := .dict #[ent P ".0" 197 (.ref 16)] 1 }
def o21 : Obj := { cls := .type "generator", data := .fields #[.int 0 0, .str "<genexpr>" 198, .str "<genexpr>" 199] }
def o19 : Obj := { cls := .type "code", data := .fields #[.str "<genexpr>" 192, .str "<genexpr>" 193, .str "/claim/cut.py" 194, .int 2 0, .int 1 0, .int 0 0, .int 0 0, .int 35 0, .ref 17, .bool true, .int 181 0, .ref 18, .none, .none, .none, .none, .int 195 0, .int 2 0, .str "/claim/cut.py" 196] }
noncomputable def sA (w : World) (os : OsState) : Shared := ⟨hpT w.params (boot_heap w.params).life (mainO w.params 187 [] 9) [o15, o16, o17, o18, o19, o20 w.params, o21], #[.fresh (.compStart gexp 0 (.ref 16) .none cenvT)], boot_drawn, 200, os⟩
abbrev row1 : String := "special-get-raises"
/-- before the module's body -/
noncomputable def sP (w : World) (os : OsState) : Shared := ⟨⟨[boot_o_0 w.params, boot_o_1 w.params, boot_o_2 w.params, boot_o_3 w.params, boot_o_4 w.params, boot_o_5 w.params, boot_o_6 w.params, boot_o_7 w.params, boot_o_8 w.params, boot_o_9 w.params, boot_o_10 w.params, o11, o12 [], o13, o14 164].toArray, (boot_heap w.params).life⟩, #[], boot_drawn, 187, os⟩
noncomputable def rP (w : World) (os : OsState) : Option (Shared × Thread) := goI treeTable P0 w 12 (bootS w os) (topStub P0)
theorem segPs (w : World) (os : OsState) : (rP w os).map (·.1) = some (sP w os) := by kernel_rfl
theorem segPt (w : World) (os : OsState) : thr (rP w os) = ⟨denote treeTable (.body bodyT envT), codeT, default, [topFrame default]⟩ := by kernel_rfl
noncomputable def tA : Thread := ⟨(blockStart bodyT envT).wrap (fun _ => (execs bodyT envT).wrap doneF (leaveH envT) id id) .raise id id, codeT, default, [topFrame default]⟩
theorem segPt' (w : World) (os : OsState) : thr (rP w os) = tA := by rw [segPt, body_wrap]; rfl
def callG : Sem Fin → Bool
  | .call _ _ g _ _ => g
  | _ => false
def callL : Sem Fin → List Value
  | .call _ _ _ l _ => l
  | _ => []
def whoF : Sem Fin → Option (Value × List Value)
  | .call (.call f ⟨args, []⟩) none _ _ _ => some (f, args)
  | _ => none
theorem whoF_eq {c : Sem Fin} {f : Value} {args : List Value} (h : whoF c = some (f, args)) : c = .call (.call f ⟨args, []⟩) none (callG c) (callL c) (callK c) := by
  unfold whoF at h
  split at h
  · cases h; rfl
  · cases h
/-- the run comes to this state, before this call -/
def CallsAt (r : Option (Shared × Thread)) (s : Shared) (f : Value) (args : List Value) : Prop := r.map (fun x => (x.1, whoF x.2.cur, x.2.code, x.2.stack)) = some (s, some (f, args), codeT, [topFrame default])
/-- the thread stands before this call -/
def AtCall (f : Value) (args : List Value) (t : Thread) : Prop := (t.cur, t.code, t.stack) = (.call (.call f ⟨args, []⟩) none (callG t.cur) (callL t.cur) (callK t.cur), codeT, [topFrame default])
theorem CallsAt.run {r : Option (Shared × Thread)} {s : Shared} {f : Value} {args : List Value} (h : CallsAt r s f args) : r = some (s, thr r) ∧ AtCall f args (thr r) := by
  obtain ⟨⟨a, c, d, p, st⟩, rfl, e⟩ := Option.map_eq_some_iff.mp h
  simp only [Prod.mk.injEq] at e
  obtain ⟨rfl, h2, h3, h4⟩ := e
  exact ⟨rfl, Prod.ext (whoF_eq h2) (Prod.ext h3 h4)⟩
noncomputable def onT (t : Thread) (v : Value) : Thread := ⟨callK t.cur (.ok (.ret v)), t.code, t.pos, t.stack⟩
noncomputable def hp0 (P : Params) (xs : List Obj) : Heap := ⟨(boot_o_0 P :: boot_o_1 P :: boot_o_2 P :: mainO P 187 [] 9 :: boot_o_4 P :: boot_o_5 P :: boot_o_6 P :: boot_o_7 P :: boot_o_8 P :: boot_o_9 P :: boot_o_10 P :: o11 :: o12 [] :: o13 :: o14 164 :: xs).toArray, (boot_heap P).life⟩
/-- before range(32), and behind it -/
noncomputable def s0 (w : World) (os : OsState) : Shared := ⟨hp0 w.params [], #[], boot_drawn, 190, os⟩
noncomputable def s0c (w : World) (os : OsState) : Shared := ⟨hp0 w.params [o15], #[], boot_drawn, 192, os⟩
noncomputable def r0 (w : World) (os : OsState) : Option (Shared × Thread) := goI treeTable P0 w 18 (sP w os) tA
theorem seg0 (w : World) (os : OsState) : CallsAt (r0 w os) (s0 w os) (.type "range") [.int 32 189] := by unfold CallsAt; kernel_rfl
theorem seg0c (w : World) (os : OsState) (g : Bool) (l : List Value) (k : Result → Sem Fin) (pos : Pos) : goI treeTable P0 w 17 (s0 w os) ⟨.call (.call (.type "range") ⟨[.int 32 189], []⟩) none g l k, codeT, pos, [topFrame default]⟩ = some (s0c w os, ⟨k (.ok (.ret (.ref 15))), codeT, pos, [topFrame default]⟩) := by kernel_rfl
/-- v: the world of the run; w: the letters of the heap -/
noncomputable def rA (v w : World) (os : OsState) : Option (Shared × Thread) := goI treeTable P0 v 41 (s0c w os) (onT (thr (r0 v os)) (.ref 15))
theorem segA_false (w : World) (os : OsState) : CallsAt (rA (w.withFollow row1 false) w os) (sA w os) (.type "frozenset") [.ref 21] := by unfold CallsAt; kernel_rfl
theorem segA_true (w : World) (os : OsState) : CallsAt (rA (w.withFollow row1 true) w os) (sA w os) (.type "frozenset") [.ref 21] := by unfold CallsAt; kernel_rfl
/-- the thread there: in both worlds the same -/
noncomputable def TA (w : World) (os : OsState) : Thread := thr (rA (w.withFollow row1 false) w os)
theorem thrA_true (w : World) (os : OsState) : thr (rA (w.withFollow row1 true) w os) = TA w os := by kernel_rfl
theorem segA (w : World) (os : OsState) : CallsAt (rA w w os) (sA w os) (.type "frozenset") [.ref 21] ∧ thr (rA w w os) = TA w os := by
  have e := World.withFollow_self w row1
  have h0 : CallsAt (rA (w.withFollow row1 false) w os) (sA w os) (.type "frozenset") [.ref 21] ∧ thr (rA (w.withFollow row1 false) w os) = TA w os := ⟨segA_false w os, rfl⟩
  have h1 : CallsAt (rA (w.withFollow row1 true) w os) (sA w os) (.type "frozenset") [.ref 21] ∧ thr (rA (w.withFollow row1 true) w os) = TA w os := ⟨segA_true w os, thrA_true w os⟩
  generalize TA w os = T at h0 h1 ⊢
  cases hb : w.params.followText row1 <;> rw [hb] at e
  · rw [e] at h0; exact h0
  · rw [e] at h1; exact h1
end
section
open PySem PySem.W PyProof.Rows PySem.Calls
set_option maxRecDepth 100000
/-- a frozenset -/
def fz (e : Array (Int × Value)) (p : Nat) (t : SetTable) : Obj := ⟨.type "frozenset", none, .set e p t, #[]⟩
noncomputable def rest (j : Nat) (pos : Pos) : Thread := ⟨(execs (bodyT.drop j) envT).wrap doneF (leaveH envT) id id, codeT, pos, [topFrame default]⟩
/-- the run comes to this state, before statement j -/
def RestsAt (r : Option (Shared × Thread)) (s : Shared) (j : Nat) : Prop := r.map (fun x => (x.1, x.2.cur, x.2.code, x.2.stack)) = some (s, (execs (bodyT.drop j) envT).wrap doneF (leaveH envT) id id, codeT, [topFrame default])
theorem RestsAt.run {r : Option (Shared × Thread)} {s : Shared} {j : Nat} (h : RestsAt r s j) : ∃ pos, r = some (s, rest j pos) := by
  obtain ⟨⟨a, c, d, p, st⟩, rfl, e⟩ := Option.map_eq_some_iff.mp h
  simp only [Prod.mk.injEq] at e
  obtain ⟨rfl, rfl, rfl, rfl⟩ := e
  exact ⟨p, rfl⟩
noncomputable def st2 (P : Params) (life : Life) (os : OsState) (k n : Nat) (more : List DictEntry) (ep : Nat) (xs : List Obj) : Shared := ⟨hpT P life (mainO P n more ep) xs, #[.finished], boot_drawn, k, os⟩
end
section
open PySem PySem.W PyProof.Rows PySem.Calls
set_option maxRecDepth 100000
theorem thr_of {r : Option (Shared × Thread)} {s : Shared} (h : r.map (·.1) = some s) : r = some (s, thr r) := by
  cases r with
  | none => cases h
  | some x => obtain ⟨a, b⟩ := x; cases h; rfl
def puts (f : Nat → Obj) (i : Nat) (v : Obj) : Nat → Obj := fun j => bif Nat.beq j i then v else f j
theorem puts2_of {f : Nat → Obj} {i j : Nat} (h : ∃ es p u, f i = fz es p u) (h' : ∃ es p u, f j = fz es p u) : ∃ g e p u e' p' u', f = puts (puts g i (fz e p u)) j (fz e' p' u') := by
  obtain ⟨e, p, u, h⟩ := h
  obtain ⟨e', p', u', h'⟩ := h'
  refine ⟨f, e, p, u, e', p', u', funext fun k => ?_⟩
  unfold puts
  cases hj : Nat.beq k j with
  | true => rw [Nat.eq_of_beq_eq_true hj]; exact h'
  | false =>
    show f k = bif Nat.beq k i then fz e p u else f k
    cases hi : Nat.beq k i with
    | true => rw [Nat.eq_of_beq_eq_true hi]; exact h
    | false => rfl
def lst (k : Nat) : Nat → (Nat → Obj) → List Obj
  | 0, _ => []
  | n + 1, f => f k :: lst (k + 1) n f
theorem lst_of {f : Nat → Obj} : ∀ {xs : List Obj} {k : Nat}, (∀ i x, xs[i]? = some x → f (k + i) = x) → xs = lst k xs.length f
  | [], _, _ => rfl
  | x :: xs, k, h => by
    show x :: xs = f k :: lst (k + 1) xs.length f
    rw [show f k = x from h 0 x rfl, ← lst_of (xs := xs) (k := k + 1) fun i y e => by rw [Nat.add_right_comm]; exact h (i + 1) y e]
theorem some_lst {n : Nat} {xs : List Obj} (h : xs.length = n) : ∃ f, xs = lst 15 n f := by
  subst h
  refine ⟨fun i => xs.getD (i - 15) default, lst_of fun i x e => ?_⟩
  rw [Nat.add_sub_cancel_left, List.getD_eq_getElem?_getD, e]
  rfl
def l12 (f : Nat → Obj) : List Obj := [f 15, f 16, f 17, f 18, f 19, f 20, f 21, f 22, f 23, f 24, f 25, f 26]
theorem len12 {xs : List Obj} (h : xs.length = 12) : ∃ f, xs = l12 f := some_lst h
def l16 (f : Nat → Obj) : List Obj := [f 15, f 16, f 17, f 18, f 19, f 20, f 21, f 22, f 23, f 24, f 25, f 26, f 27, f 28, f 29, f 30]
theorem len16 {xs : List Obj} (h : xs.length = 16) : ∃ f, xs = l16 f := some_lst h
def l17 (f : Nat → Obj) : List Obj := [f 15, f 16, f 17, f 18, f 19, f 20, f 21, f 22, f 23, f 24, f 25, f 26, f 27, f 28, f 29, f 30, f 31]
theorem len17 {xs : List Obj} (h : xs.length = 17) : ∃ f, xs = l17 f := some_lst h
def l21 (f : Nat → Obj) : List Obj := [f 15, f 16, f 17, f 18, f 19, f 20, f 21, f 22, f 23, f 24, f 25, f 26, f 27, f 28, f 29, f 30, f 31, f 32, f 33, f 34, f 35]
theorem len21 {xs : List Obj} (h : xs.length = 21) : ∃ f, xs = l21 f := some_lst h
def l22 (f : Nat → Obj) : List Obj := [f 15, f 16, f 17, f 18, f 19, f 20, f 21, f 22, f 23, f 24, f 25, f 26, f 27, f 28, f 29, f 30, f 31, f 32, f 33, f 34, f 35, f 36]
theorem len22 {xs : List Obj} (h : xs.length = 22) : ∃ f, xs = l22 f := some_lst h
def l26 (f : Nat → Obj) : List Obj := [f 15, f 16, f 17, f 18, f 19, f 20, f 21, f 22, f 23, f 24, f 25, f 26, f 27, f 28, f 29, f 30, f 31, f 32, f 33, f 34, f 35, f 36, f 37, f 38, f 39, f 40]
theorem len26 {xs : List Obj} (h : xs.length = 26) : ∃ f, xs = l26 f := some_lst h
def l30 (f : Nat → Obj) : List Obj := [f 15, f 16, f 17, f 18, f 19, f 20, f 21, f 22, f 23, f 24, f 25, f 26, f 27, f 28, f 29, f 30, f 31, f 32, f 33, f 34, f 35, f 36, f 37, f 38, f 39, f 40, f 41, f 42, f 43, f 44]
theorem len30 {xs : List Obj} (h : xs.length = 30) : ∃ f, xs = l30 f := some_lst h
def l31 (f : Nat → Obj) : List Obj := [f 15, f 16, f 17, f 18, f 19, f 20, f 21, f 22, f 23, f 24, f 25, f 26, f 27, f 28, f 29, f 30, f 31, f 32, f 33, f 34, f 35, f 36, f 37, f 38, f 39, f 40, f 41, f 42, f 43, f 44, f 45]
theorem len31 {xs : List Obj} (h : xs.length = 31) : ∃ f, xs = l31 f := some_lst h
end
section
open PySem PySem.W PyProof.Rows PySem.Calls
set_option maxRecDepth 100000
/-- what is seen of a def's data, but for its module's name -/
def stripF : Data → Option FuncData
  | .func f => some { f with pyModule := .none }
  | _ => none
def slot4 (o : Obj) : Option (Option Value) := match o.slots.toList with
  | [_, _, _, _, k, _] => some k
  | _ => none
noncomputable def sawC (P : Params) (s : Shared) : Bool :=
  s.heap.isNs 3 && s.heap.isNs 0 && s.heap.isNs 54 && (s.heap.nsMap 54 "__init__").isNone && (s.heap.nsMap 54 "__str__").isNone &&
  gls.all (fun x => decide (s.heap.nsMap 3 x.1 = some x.2)) && bls.all (fun x => decide (s.heap.nsMap 3 x.1 = none) && decide (s.heap.nsMap 0 x.1 = some x.2)) &&
  s.heap.noLimitOk && s.heap.noDigitsOk && fns.all (fun t => s.heap.codeRecOk (.ref t.2.2) (fnName (stmtAt t.1))) && decide (s.heap.tab0At 92 = some 88) && s.heap.bmainOk &&
  s.heap.accountedOkI [] && staticsOk [] (boot_heap P) s.heap && namesBound P0 s.heap && laidKept (boot_heap P) s.heap
def olds : List Addr := [0, 1, 4, 5, 6, 7, 8, 9, 10]
def atEnd (t : Thread) : Bool := through t && match t.cur with
  | .pure (.done (.ret .none)) => true
  | _ => false
noncomputable def seeC (P : Params) (x : Shared × Thread) := (sawC P x.1, atEnd x.2, x.1.heap.bltView, fns.map (fun t => (x.1.heap.get? t.2.1).bind (stripF ·.data)), olds.map x.1.heap.get?, (x.1.heap.objs[36]?, x.1.heap.objs[45]?, x.1.heap.objs.size),
  (x.1.heap.get? 55).map (fun o => (o.cls, o.dict, o.data, slot4 o)), x.1.gens, x.1.os)
noncomputable def rC (w : World) (os : OsState) (life : Life) (k t1 t2 t3 t4 t5 : Nat) (pos : Pos) (xs : List Obj) : Option (Shared × Thread) := goI treeTable P0 w 547 (st2 w.params life os k 187 [ent w.params "ASCII_CTRL" t1 (.ref 31), ent w.params "ILLEGAL_BASIC_STR_CHARS" t2 (.ref 36), ent w.params "ILLEGAL_COMMENT_CHARS" t3 (.ref 36), ent w.params "TOML_WS" t4 (.ref 37), ent w.params "TOML_WS_AND_NEWLINE" t5 (.ref 45)] 14 xs) (rest 6 pos)
theorem segC (w : World) (os : OsState) (life : Life) (k t1 t2 t3 t4 t5 : Nat) (pos : Pos) (f : Nat → Obj) : (rC w os life k t1 t2 t3 t4 t5 pos (l31 f)).map (seeC w.params) =
    some (true, true, bltViewBooted, fns.map (fun t => some (fd t.1 .none (.ref t.2.2))), [some (boot_o_0 w.params), some (boot_o_1 w.params), some (boot_o_4 w.params), some (boot_o_5 w.params), some (boot_o_6 w.params), some (boot_o_7 w.params), some (boot_o_8 w.params), some (boot_o_9 w.params), some (boot_o_10 w.params)], (some (f 36), some (f 45), 132),
      some ((clsO none none none none none).cls, (clsO none none none none none).dict, (clsO none none none none none).data, some (some (.builtin "ValueError.__new__"))), #[.finished], os) := by kernel_rfl
end
section
open PySem PySem.W PyProof.Rows PySem.Calls
set_option maxRecDepth 100000
def A0 : Around := ⟨none, 302, none, none, 7⟩
theorem in_A0 : (Ctx.of codeT [topFrame default]).In A0 := ⟨by rfl, by decide +kernel, (fun _ h => by cases h), (fun _ h => by cases h), by decide +kernel⟩
/-- the top ends, with this said of the state -/
def RTx (w : World) (s : Shared) (t : Thread) (P : Shared → Prop) : Prop := ∃ sE f, RT w s t sE (.ret (.ok f)) ∧ P sE
theorem seg_rest {w : World} {n j : Nat} {s s' : Shared} {t : Thread} {P : Shared → Prop} (hs : RestsAt (goI treeTable P0 w n s t) s' j)
    (h : ∀ pos, RTx w s' (rest j pos) P) : RTx w s t P := by
  obtain ⟨pos, e⟩ := hs.run
  obtain ⟨sE, f, k, z⟩ := h pos
  exact ⟨sE, f, goI_reach e k, z⟩
theorem reach_callx {w : World} {A : Around} {s : Shared} {f : Value} {args : List Value} {g : Bool} {l : List Value} {k : Result → Sem Fin} {code : Code} {pos : Pos} {st : List Frame} {P : Shared → Prop} {Q : Value → Shared → Prop} (hΓ : (Ctx.of code st).In A)
    (hw : wpAny (model P0 w) A (call f args) Q (fun _ _ => False) s) (hk : ∀ v s₁, Q v s₁ → RTx w s₁ ⟨k (.ok (.ret v)), code, pos, st⟩ P) : RTx w s ⟨.call (.call f ⟨args, []⟩) none g l k, code, pos, st⟩ P := by
  have h0 := hw (Ctx.of code st) pos hΓ
  have h1 : Sem.wp (model P0 w) (Ctx.of code st) (runValue (.call f ⟨args, []⟩)) (fun a _ s' => Q a s') (fun _ _ _ => False) pos s := h0
  rw [Sem.wp_runValue] at h1
  obtain ⟨r, s₁, hret, hR⟩ := h1
  match r, hret, hR with
  | .ok (.ret v), hret, hR =>
    obtain ⟨sE, fl, hE, hP⟩ := hk v s₁ hR
    refine ⟨sE, fl, ?_, hP⟩
    have hr := runs_reach hret (.ret k none g l code pos [] :: st) ((Ctx.fits_of code st).enter (.call f ⟨args, []⟩) k none g l pos [])
    refine Reach.step (t₁ := (model P0 w).den (.call f ⟨args, []⟩)) (c₁ := .call f ⟨args, []⟩) (p₁ := pos) (pre₁ := .ret k none g l code pos [] :: st) (s₁ := s) rfl ?_
    have hr' : Reach (model P0 w) ((.ret k none g l code pos [] :: st) ++ []) s ((model P0 w).den (.call f ⟨args, []⟩)) (.call f ⟨args, []⟩) pos [] s₁ (.ret (.ok (.ret v))) := by rw [List.append_nil]; exact hr
    have := Reach.under (base := []) (B := .ret k none g l code pos [] :: st) (s' := sE) (e := .ret (.ok fl)) hr' ?_
    · exact this
    · rintro t' c' p' pre' ⟨rfl, rfl⟩
      refine Reach.step (t₁ := k (.ok (.ret v))) (c₁ := code) (p₁ := pos) (pre₁ := st) (s₁ := s₁) rfl ?_
      exact hE
  | .ok .next, _, hR => exact hR.elim
  | .ok .brk, _, hR => exact hR.elim
  | .ok .cont, _, hR => exact hR.elim
  | .error e, _, hR => exact hR.elim
theorem seg_call {w : World} {n : Nat} {s s' : Shared} {t : Thread} {f : Value} {args : List Value} {P : Shared → Prop} {Q : Value → Shared → Prop} (hs : CallsAt (goI treeTable P0 w n s t) s' f args)
    (hw : wpAny (model P0 w) A0 (call f args) Q (fun _ _ => False) s') (hk : ∀ v s₁, Q v s₁ → RTx w s₁ (onT (thr (goI treeTable P0 w n s t)) v) P) : RTx w s t P := by
  obtain ⟨e, ht⟩ := hs.run
  generalize thr (goI treeTable P0 w n s t) = t' at e ht hk
  have : RTx w s' t' P := by
    obtain ⟨c, d, p, st⟩ := t'
    have h1 : c = .call (.call f ⟨args, []⟩) none (callG c) (callL c) (callK c) := congrArg Prod.fst ht
    have h2 : d = codeT := congrArg (fun x => x.2.1) ht
    have h3 : st = [topFrame default] := congrArg (fun x => x.2.2) ht
    clear ht e
    have hk' : ∀ v s₁, Q v s₁ → RTx w s₁ ⟨callK c (.ok (.ret v)), d, p, st⟩ P := hk
    rw [h1]
    subst h2; subst h3
    exact reach_callx in_A0 hw hk'
  obtain ⟨sE, fl, k, z⟩ := this
  exact ⟨sE, fl, goI_reach e k, z⟩
end
section
open PySem PySem.W PyProof.Rows PySem.Calls
set_option maxRecDepth 100000
namespace FF
theorem slot_or : Slot "frozenset" "__or__" "frozenset.__or__" :=
  .of (owner := "frozenset") (n := "__or__") (by rw [typeLookup_type, builtinLookup_eq_fast]; kernel_rfl) (by decide +kernel) (by decide +kernel) (by decide +kernel)
    (by first | exact .inl (by decide +kernel) | exact .inr (by decide +kernel)) (by rw [isSubtype_type]; kernel_rfl)
theorem args_or (a b : Value) : argsOk "frozenset.__or__" ⟨[a, b], []⟩ := by
  unfold argsOk; rw [signature?_of (id := "frozenset.__or__") (n := ['_', '_', 'r', 'o', '_', '_']) (o := ['t', 'e', 's', 'n', 'e', 'z', 'o', 'r', 'f']) (by kernel_rfl) owner]; kernel_rfl
theorem entry_or : entryFor table "frozenset.__or__" = some Builtin.«frozenset.__or__» := entryFor_of_tree (by kernel_rfl)
theorem slot_sub : Slot "frozenset" "__sub__" "frozenset.__sub__" :=
  .of (owner := "frozenset") (n := "__sub__") (by rw [typeLookup_type, builtinLookup_eq_fast]; kernel_rfl) (by decide +kernel) (by decide +kernel) (by decide +kernel)
    (by first | exact .inl (by decide +kernel) | exact .inr (by decide +kernel)) (by rw [isSubtype_type]; kernel_rfl)
theorem args_sub (a b : Value) : argsOk "frozenset.__sub__" ⟨[a, b], []⟩ := by
  unfold argsOk; rw [signature?_of (id := "frozenset.__sub__") (n := ['_', '_', 'b', 'u', 's', '_', '_']) (o := ['t', 'e', 's', 'n', 'e', 'z', 'o', 'r', 'f']) (by kernel_rfl) owner]; kernel_rfl
theorem entry_sub : entryFor table "frozenset.__sub__" = some Builtin.«frozenset.__sub__» := entryFor_of_tree (by kernel_rfl)
end FF
section
variable {w : World} {A : Around} {E : Value → Shared → Prop} {s : Shared}
theorem or_call {l r : Addr} {S S' : Str → Bool} {n m : Nat} {Q : Value → Shared → Prop} (hlr : l ≠ r) (hS : FS w s.heap l S n) (hS' : FS w s.heap r S' 1) (hn : 0 < n) (hnm : n ≤ m) (hm : Full5 m) (hk : (if n * 5 ≥ 21 then SetTable.sizeAbove (n * 2) - 1 else 7) = m) (hk2 : SetTable.sizeAbove (n * 2) ≤ 1000) (hroom : (n + 1) * 5 < m * 3) (hn2 : n ≤ 900) (hdis : ∀ k, S' k = true → S k = false)
    (h : ∀ s', Grown 1 s s' → FS w s'.heap s.heap.objs.size (fun k => S k || S' k) (n + 1) → Q (.ref s.heap.objs.size) s') :
    wpAny (model P0 w) A (call (.builtin "frozenset.__or__") [.ref l, .ref r]) Q E s :=
  wpAny_call (codeAny_call_builtin FF.slot_or.plain FF.entry_or (FF.slot_or.check _ _ _ _ _ _ _ _ hS.typeIs (FF.args_or _ _) (or_one (R := fun r s' => match r with | .ok (.ret v) => Q v s' | .ok _ => False | .error e => E e s') hlr hS hS' hn hnm hm hk hk2 hroom hn2 hdis h)))
theorem sub_call {l r : Addr} {S S' : Str → Bool} {n m : Nat} {Q : Value → Shared → Prop} (hlr : l ≠ r) (hS : FS w s.heap l S (n + 1)) (hS' : FS w s.heap r S' 1) (hn8 : 8 ≤ n) (hnm : n + 1 ≤ m) (hm : Full5 m) (hm8 : 8 ≤ m) (hk : (if (n + 1) * 5 ≥ 21 then SetTable.sizeAbove ((n + 1) * 2) - 1 else 7) = m) (hk2 : SetTable.sizeAbove ((n + 1) * 2) ≤ 1000) (hn2 : n ≤ 900) (hin : ∀ k, S' k = true → S k = true)
    (h : ∀ s', Grown 1 s s' → FS w s'.heap s.heap.objs.size (fun k => S k && !S' k) n → Q (.ref s.heap.objs.size) s') :
    wpAny (model P0 w) A (call (.builtin "frozenset.__sub__") [.ref l, .ref r]) Q E s :=
  wpAny_call (codeAny_call_builtin FF.slot_sub.plain FF.entry_sub (FF.slot_sub.check _ _ _ _ _ _ _ _ hS.typeIs (FF.args_sub _ _) (sub_one (R := fun r s' => match r with | .ok (.ret v) => Q v s' | .ok _ => False | .error e => E e s') hlr hS hS' hn8 hnm hm hm8 hk hk2 hn2 hin h)))
end
end
section
open PySem PySem.W PyProof.Rows PySem.Calls
set_option maxRecDepth 100000
noncomputable def preT (P : Params) (n : Nat) (more : List DictEntry) (ep : Nat) : List Obj :=
  [boot_o_0 P, boot_o_1 P, boot_o_2 P, mainO P n more ep, boot_o_4 P, boot_o_5 P, boot_o_6 P, boot_o_7 P, boot_o_8 P, boot_o_9 P, boot_o_10 P, o11, o12 [.int 2 0, .int 23 0, .ref 19], o13, o14 164]
theorem pre_get (P : Params) (life : Life) (n : Nat) (more : List DictEntry) (ep : Nat) (xs : List Obj) : ∀ i : Nat, i < 15 → ∃ o, (preT P n more ep)[i]? = some o ∧ (hpT P life (mainO P n more ep) xs).get? i = some o
  | 0, _ => ⟨_, rfl, rfl⟩ | 1, _ => ⟨_, rfl, rfl⟩ | 2, _ => ⟨_, rfl, rfl⟩ | 3, _ => ⟨_, rfl, rfl⟩ | 4, _ => ⟨_, rfl, rfl⟩ | 5, _ => ⟨_, rfl, rfl⟩ | 6, _ => ⟨_, rfl, rfl⟩ | 7, _ => ⟨_, rfl, rfl⟩
  | 8, _ => ⟨_, rfl, rfl⟩ | 9, _ => ⟨_, rfl, rfl⟩ | 10, _ => ⟨_, rfl, rfl⟩ | 11, _ => ⟨_, rfl, rfl⟩ | 12, _ => ⟨_, rfl, rfl⟩ | 13, _ => ⟨_, rfl, rfl⟩ | 14, _ => ⟨_, rfl, rfl⟩
  | i + 15, h => by omega
theorem hp_form {P : Params} {life : Life} {n : Nat} {more : List DictEntry} {ep : Nat} {xs : List Obj} {h : Heap} (kp : ∀ b o, b < 15 → (hpT P life (mainO P n more ep) xs).get? b = some o → h.get? b = some o) :
    h = hpT P h.life (mainO P n more ep) (h.objs.toList.drop 15) := by
  have e : h.objs.toList.take 15 = preT P n more ep := by
    apply List.ext_getElem?
    intro i
    by_cases hi : i < 15
    · obtain ⟨o, e1, e2⟩ := pre_get P life n more ep xs i hi
      have h1 := (Heap.get?_some_iff.mp (kp i o hi e2)).1
      rw [List.getElem?_take_of_lt hi, e1, Array.getElem?_toList]
      exact h1
    · rw [List.getElem?_eq_none (by rw [List.length_take]; omega), List.getElem?_eq_none (by show 15 ≤ i; omega)]
  obtain ⟨objs, life'⟩ := h
  show Heap.mk objs life' = Heap.mk (preT P n more ep ++ objs.toList.drop 15).toArray life'
  rw [← e, List.take_append_drop]
theorem st2_of {P : Params} {life : Life} {os : OsState} {k n : Nat} {more : List DictEntry} {ep : Nat} {xs : List Obj} {c : Nat} {s : Shared} (g : Grown c (st2 P life os k n more ep xs) s) :
    ∃ life' k' ys, ys.length = xs.length + c ∧ s = st2 P life' os k' n more ep ys := by
  have e := hp_form (h := s.heap) (fun b o _ q => g.kp b o q)
  refine ⟨s.heap.life, s.toks, s.heap.objs.toList.drop 15, ?_, ?_⟩
  · rw [List.length_drop, Array.length_toList, g.sz]
    show (xs.length + 15) + c - 15 = _
    omega
  · obtain ⟨heap, gens, drawn, toks, os'⟩ := s
    obtain ⟨a, b, d⟩ := g.re
    dsimp only at a b d e
    subst a; subst b; subst d
    show Shared.mk heap _ _ _ _ = Shared.mk _ _ _ _ _
    exact congrArg (fun h => Shared.mk h _ _ _ _) e
theorem FS.is_fz {w : World} {h : Heap} {a : Addr} {S : Str → Bool} {n : Nat} {x : Obj} (f : FS w h a S n) (e : h.objs[a]? = some x) : ∃ es p u, x = fz es p u := by
  obtain ⟨o, es, ep, t, e1, ⟨c1, c2, c3⟩, d, _⟩ := f
  have e2 := (Heap.get?_some_iff.mp e1).1
  obtain rfl : x = o := Option.some.inj (e.symm.trans e2)
  refine ⟨es, ep, t, ?_⟩
  obtain ⟨cls, dict, data, slots⟩ := x
  dsimp only at c1 c2 c3 d
  subst c1; subst c2; subst c3; subst d
  rfl
end
section
open PySem PySem.W PyProof.Rows PySem.Calls
set_option maxRecDepth 100000
theorem firsts_one {val : Nat → Str} {g : Nat → Nat} {n : Nat} (hv : ∀ j, j < n → val j = ⟨#[g j]⟩) : firsts val n = one (fun c => (List.range n).any fun j => c == g j) := by
  funext k
  obtain ⟨⟨l⟩⟩ := k
  unfold firsts one
  have key : ∀ j, j < n → decide ((⟨⟨l⟩⟩ : Str) = val j) = (match l with | [c] => c == g j | _ => false) := fun j hj => by
    rw [hv j hj, Bool.eq_iff_iff, decide_eq_true_eq]
    match l with
    | [] => simp
    | [c] => simp
    | a :: b :: r => simp
  match l, key with
  | [], key => rw [List.any_eq_false.mpr (fun j hj => by rw [key j (List.mem_range.mp hj)]; simp)]
  | [c], key =>
    show _ = (List.range n).any fun j => c == g j
    rw [Bool.eq_iff_iff, List.any_eq_true, List.any_eq_true]
    exact ⟨fun ⟨j, hj, e⟩ => ⟨j, hj, (key j (List.mem_range.mp hj)).symm.trans e⟩, fun ⟨j, hj, e⟩ => ⟨j, hj, (key j (List.mem_range.mp hj)).trans e⟩⟩
  | a :: b :: r, key => rw [List.any_eq_false.mpr (fun j hj => by rw [key j (List.mem_range.mp hj)]; simp)]
theorem one_or (f g : Nat → Bool) : (fun k => one f k || one g k) = one (fun c => f c || g c) := by
  funext ⟨⟨l⟩⟩
  unfold one
  match l with
  | [] => rfl
  | [c] => rfl
  | a :: b :: r => rfl
theorem one_less (f g : Nat → Bool) : (fun k => one f k && !one g k) = one (fun c => f c && !g c) := by
  funext ⟨⟨l⟩⟩
  unfold one
  match l with
  | [] => rfl
  | [c] => rfl
  | a :: b :: r => rfl
theorem sign_at (x : Str) (j : Nat) : signAt x j = ⟨#[x.cps.getD j 0]⟩ := rfl
theorem ws_is : (fun k => firsts (signAt ⟨#[32, 9]⟩) 2 k || firsts (signAt ⟨#[10]⟩) 1 k) = one wsC := by
  rw [firsts_one (fun j _ => sign_at _ j), firsts_one (fun j _ => sign_at _ j), one_or]
  refine congrArg one (funext fun c => ?_)
  show ((c == 32 || (c == 9 || false)) || (c == 10 || false)) = _
  unfold wsC
  simp
def chrS (j : Nat) : Str := ⟨#[j]⟩
theorem il_is : (fun k => (firsts chrS 32 k || firsts (signAt ⟨#[127]⟩) 1 k) && !firsts (signAt ⟨#[9]⟩) 1 k) = one ilC := by
  rw [firsts_one (val := chrS) (g := id) (fun j _ => rfl), firsts_one (fun j _ => sign_at _ j), firsts_one (fun j _ => sign_at _ j)]
  have := one_or (fun c => (List.range 32).any fun j => c == id j) (fun c => (List.range 1).any fun j => c == (#[127] : Array Nat).getD j 0)
  have h2 := fun k => congrFun this k
  simp only [h2]
  rw [one_less]
  refine congrArg one (funext fun c => ?_)
  unfold ilC
  have e : ((List.range 32).any fun j => c == id j) = decide (c < 32) := by
    rw [Bool.eq_iff_iff, List.any_eq_true, decide_eq_true_eq]
    exact ⟨fun ⟨j, hj, e⟩ => by have := List.mem_range.mp hj; have : c = j := eq_of_beq e; omega, fun h => ⟨c, List.mem_range.mpr h, beq_self_eq_true c⟩⟩
  rw [e]
  show ((decide (c < 32) || (c == 127 || false)) && !(c == 9 || false)) = _
  by_cases h : c = 9
  · subst h; rfl
  · have h9 : (c == 9) = false := beq_eq_false_iff_ne.mpr h
    have h9' : (c != 9) = true := bne_iff_ne.mpr h
    rw [h9, h9']
    simp
/-- what is said of the state behind the top -/
structure Behind (w : World) (os : OsState) (s : Shared) : Prop where
  inv : Inv w (s.heap.nsMap 3) (s.heap.nsMap 0) s.heap
  gl : Gl (s.heap.nsMap 3) (s.heap.nsMap 0)
  tab : Tab s.heap
  saw : sawC w.params s = true
  blt : s.heap.bltView = bltViewBooted
  old : ∀ b o, (boot_heap w.params).get? b = some o → b ≠ 2 → b ≠ 3 → s.heap.get? b = some o
  gens : s.gens = #[.finished]
  os : s.os = os
theorem strip_of {d : Data} {i : Nat} {c : Value} (h : stripF d = some (fd i .none c)) : ∃ pm, d = .func (fd i pm c) := by
  unfold stripF at h
  split at h
  · rename_i f
    have h := Option.some.inj h
    refine ⟨f.pyModule, congrArg Data.func ?_⟩
    have : f = { { f with pyModule := .none } with pyModule := f.pyModule } := by cases f; rfl
    rw [this, h]
    rfl
  · cases h
end
section
open PySem PySem.W PyProof.Rows PySem.Calls
set_option maxRecDepth 100000
theorem boot_size (P : Params) : (boot_heap P).objs.size = 11 := rfl
theorem old_of {P : Params} {h : Heap} (e : olds.map h.get? = [some (boot_o_0 P), some (boot_o_1 P), some (boot_o_4 P), some (boot_o_5 P), some (boot_o_6 P), some (boot_o_7 P), some (boot_o_8 P), some (boot_o_9 P), some (boot_o_10 P)]) :
    ∀ b o, (boot_heap P).get? b = some o → b ≠ 2 → b ≠ 3 → h.get? b = some o := by
  intro b o hb h2 h3
  have hlt : (b : Nat) < 11 := Heap.lt_size hb
  simp only [olds, List.map_cons, List.map_nil, List.cons.injEq] at e
  obtain ⟨e0, e1, e4, e5, e6, e7, e8, e9, e10, _⟩ := e
  have hb' := (Heap.get?_some_iff.mp hb).1
  match b, hlt, h2, h3, hb' with
  | 0, _, _, _, q => exact e0.trans q
  | 1, _, _, _, q => exact e1.trans q
  | 2, _, h, _, _ => exact absurd rfl h
  | 3, _, _, h, _ => exact absurd rfl h
  | 4, _, _, _, q => exact e4.trans q
  | 5, _, _, _, q => exact e5.trans q
  | 6, _, _, _, q => exact e6.trans q
  | 7, _, _, _, q => exact e7.trans q
  | 8, _, _, _, q => exact e8.trans q
  | 9, _, _, _, q => exact e9.trans q
  | 10, _, _, _, q => exact e10.trans q
theorem bmain_at {h : Heap} (e : h.bmainOk = true) (g : h.nsMap 3 "__builtins__" = some (.ref 4)) : ∃ o, h.get? 4 = some o ∧ o.cls = .type "module" ∧ o.dict = some 0 ∧ o.data = .plain := by
  obtain ⟨bm, ob, a, _, b, c, d, f⟩ := Heap.bmainOk_spec e
  have : some (Value.ref bm) = some (.ref 4) := a.symm.trans g
  obtain rfl : bm = 4 := by injection this with q; injection q
  exact ⟨ob, b, c, d, f⟩
theorem cls_at {h : Heap} (e : (h.get? 55).map (fun o => (o.cls, o.dict, o.data, slot4 o)) = some ((clsO none none none none none).cls, (clsO none none none none none).dict, (clsO none none none none none).data, some (some (.builtin "ValueError.__new__")))) :
    ∃ k0 k1 k2 k3 k5, h.get? 55 = some (clsO k0 k1 k2 k3 k5) := by
  obtain ⟨⟨c, d, dt, sl⟩, e1, e2⟩ := Option.map_eq_some_iff.mp e
  simp only [Prod.mk.injEq] at e2
  obtain ⟨rfl, rfl, rfl, e3⟩ := e2
  unfold slot4 at e3
  split at e3
  · rename_i k0 k1 k2 k3 k4 k5 hs
    have e3 := Option.some.inj e3
    subst e3
    obtain ⟨sl⟩ := sl
    dsimp only at hs
    subst hs
    exact ⟨k0, k1, k2, k3, k5, e1⟩
  · cases e3
theorem fs_last {w : World} {h h' : Heap} {a : Addr} {S : Str → Bool} {n : Nat} {x : Obj} (f : FS w h a S n) (e : h.objs[a]? = some x) (e' : h'.objs[a]? = some x) (hn : n < scanBound) : FSet w h' a S := by
  refine (f.keep fun o ho => ?_).fset hn
  obtain ⟨h1, h2⟩ := Heap.get?_some_iff.mp ho
  exact Heap.get?_some_iff.mpr ⟨e'.trans (e.symm.trans h1), h2⟩
theorem behind_of {w : World} {os : OsState} {h₀ : Heap} {x : Shared × Thread} {x36 x45 : Obj} (e : seeC w.params x = (true, true, bltViewBooted, fns.map (fun t => some (fd t.1 .none (.ref t.2.2))), [some (boot_o_0 w.params), some (boot_o_1 w.params), some (boot_o_4 w.params), some (boot_o_5 w.params), some (boot_o_6 w.params), some (boot_o_7 w.params), some (boot_o_8 w.params), some (boot_o_9 w.params), some (boot_o_10 w.params)], (some x36, some x45, 132),
      some ((clsO none none none none none).cls, (clsO none none none none none).dict, (clsO none none none none none).data, some (some (.builtin "ValueError.__new__"))), #[.finished], os))
    (f36 : FS w h₀ 36 (one ilC) 32) (f45 : FS w h₀ 45 (one wsC) 3) (q36 : h₀.objs[36]? = some x36) (q45 : h₀.objs[45]? = some x45) : Behind w os x.1 ∧ atEnd x.2 = true := by
  obtain ⟨s, t⟩ := x
  unfold seeC at e
  simp only [Prod.mk.injEq] at e
  obtain ⟨e1, e2, e3, e4, e5, ⟨e6, e7, e8⟩, e9, e10, e11⟩ := e
  refine ⟨?_, e2⟩
  have saw := e1
  unfold sawC at e1
  simp only [Bool.and_eq_true, List.all_eq_true, decide_eq_true_eq, Option.isNone_iff_eq_none] at e1
  obtain ⟨⟨⟨⟨⟨⟨⟨⟨⟨⟨⟨⟨⟨⟨⟨a1, a2⟩, a3⟩, a4⟩, a5⟩, a6⟩, a7⟩, a8⟩, a9⟩, a10⟩, a11⟩, a12⟩, a13⟩, a14⟩, a15⟩, a16⟩ := e1
  have lk : ∀ {l : List (Str × Value)} {x : Str} {v : Value}, l.lookup x = some v → (x, v) ∈ l := fun {l x v} h => by
    induction l with
    | nil => cases h
    | cons p l ih =>
      obtain ⟨a, b⟩ := p
      rw [List.lookup_cons] at h
      split at h
      · rename_i hx
        have := eq_of_beq hx
        subst this
        cases h
        exact List.mem_cons_self ..
      · exact List.mem_cons_of_mem _ (ih h)
  have gl : Gl (s.heap.nsMap 3) (s.heap.nsMap 0) := ⟨fun x v h => a6 (x, v) (lk h), fun x v h => a7 (x, v) (lk h)⟩
  refine ⟨⟨.of_isNs a1, .of_isNs a2, .of_ok a8, Heap.noDigits_of_ok a9, fun t ht => ?_, fs_last f45 q45 e7 (by decide), fs_last f36 q36 e6 (by decide), bmain_at a12 (gl.gl _ _ rfl), cls_at e9, ⟨_, .of_isNs a3, a4, a5⟩⟩, gl, ?_, saw, e3, old_of e5, e10, e11⟩
  · have h4 := List.map_inj_left.mp e4 t ht
    obtain ⟨o, ho, hs⟩ := Option.bind_eq_some_iff.mp h4
    obtain ⟨pm, hd⟩ := strip_of hs
    exact ⟨o, pm, ho, hd, .of_ok (a10 t ht)⟩
  · obtain ⟨b1, b2⟩ := Heap.tab0At_spec a11
    exact ⟨#[], b1, b2, .inl rfl⟩
theorem end_reach {w : World} {s : Shared} {t : Thread} {P : Shared → Prop} (h : atEnd t = true) (z : P s) : RTx w s t P := by
  unfold atEnd at h
  obtain ⟨h1, h2⟩ := Bool.and_eq_true_iff.mp h
  unfold through at h1
  obtain ⟨h3, _⟩ := Bool.and_eq_true_iff.mp h1
  obtain ⟨cur, code, pos, stack⟩ := t
  dsimp only at h2 h3
  have h3 : stack = [] := List.isEmpty_iff.mp h3
  subst h3
  split at h2
  · exact ⟨s, .ret .none, .exit ⟨rfl, rfl⟩, z⟩
  · cases h2
end
section
open PySem PySem.W PyProof.Rows PySem.Calls
set_option maxRecDepth 100000
noncomputable def r2 (w : World) (os os' : OsState) (life : Life) (k : Nat) (xs : List Obj) : Option (Shared × Thread) := goI treeTable P0 w 15 (st2 w.params life os k 187 [] 9 xs) (onT (TA w os') (.ref 22))
noncomputable def r3 (w : World) (os os' os2 : OsState) (life life2 : Life) (k k2 : Nat) (ys xs : List Obj) : Option (Shared × Thread) :=
  goI treeTable P0 w 5 (st2 w.params life os k 187 [] 9 xs) (onT (thr (r2 w os2 os' life2 k2 ys)) (.ref 27))
noncomputable def r3b (w : World) (os os' os2 os3 : OsState) (life life2 life3 : Life) (k k2 k3 : Nat) (ys zs xs : List Obj) : Option (Shared × Thread) :=
  goI treeTable P0 w 8 (st2 w.params life os k 187 [] 9 xs) (onT (thr (r3 w os3 os' os2 life3 life2 k3 k2 ys zs)) (.ref 31))
theorem seg2 (w : World) (os os' : OsState) (life : Life) (k : Nat) (f : Nat → Obj) : CallsAt (r2 w os os' life k (l12 f)) (st2 w.params life os (k + 2) 187 [] 9 (l12 f)) (.type "frozenset") [.str ⟨#[127]⟩ (k + 1)] := by unfold CallsAt; kernel_rfl
theorem seg3 (w : World) (os os' os2 : OsState) (life life2 : Life) (k k2 : Nat) (y f : Nat → Obj) (e e' : Array (Int × Value)) (p p' : Nat) (u u' : SetTable) : CallsAt (r3 w os os' os2 life life2 k k2 (l12 y) (l16 (puts (puts f 22 (fz e p u)) 27 (fz e' p' u')))) (st2 w.params life os k 187 [] 9 (l16 (puts (puts f 22 (fz e p u)) 27 (fz e' p' u')))) (.builtin "frozenset.__or__") [.ref 22, .ref 27] := by unfold CallsAt; kernel_rfl
theorem seg3b (w : World) (os os' os2 os3 : OsState) (life life2 life3 : Life) (k k2 k3 : Nat) (y z f : Nat → Obj) (e e' : Array (Int × Value)) (p p' : Nat) (u u' : SetTable) : RestsAt (r3b w os os' os2 os3 life life2 life3 k k2 k3 (l12 y) (l16 (puts (puts z 22 (fz e p u)) 27 (fz e' p' u'))) (l17 f)) (st2 w.params life os (k + 1) 187 [ent w.params "ASCII_CTRL" k (.ref 31)] 10 (l17 f)) 2 := by unfold RestsAt; kernel_rfl
end
section
open PySem PySem.W PyProof.Rows PySem.Calls
set_option maxRecDepth 100000
noncomputable def r4 (w : World) (os : OsState) (life : Life) (k t1 : Nat) (pos : Pos) (xs : List Obj) : Option (Shared × Thread) := goI treeTable P0 w 8 (st2 w.params life os k 187 [ent w.params "ASCII_CTRL" t1 (.ref 31)] 10 xs) (rest 2 pos)
noncomputable def r5 (w : World) (os os' : OsState) (life life' : Life) (k k' t1 : Nat) (pos : Pos) (ys xs : List Obj) : Option (Shared × Thread) := goI treeTable P0 w 5 (st2 w.params life os k 187 [ent w.params "ASCII_CTRL" t1 (.ref 31)] 10 xs) (onT (thr (r4 w os' life' k' t1 pos ys)) (.ref 32))
noncomputable def r5b (w : World) (os os' os2 : OsState) (life life' life2 : Life) (k k' k2 t1 : Nat) (pos : Pos) (ys zs xs : List Obj) : Option (Shared × Thread) := goI treeTable P0 w 18 (st2 w.params life os k 187 [ent w.params "ASCII_CTRL" t1 (.ref 31)] 10 xs) (onT (thr (r5 w os2 os' life2 life' k2 k' t1 pos ys zs)) (.ref 36))
theorem seg4 (w : World) (os : OsState) (life : Life) (k t1 : Nat) (pos : Pos) (f : Nat → Obj) : CallsAt (r4 w os life k t1 pos (l17 f)) (st2 w.params life os (k + 1) 187 [ent w.params "ASCII_CTRL" t1 (.ref 31)] 10 (l17 f)) (.type "frozenset") [.str ⟨#[9]⟩ k] := by unfold CallsAt; kernel_rfl
theorem seg5 (w : World) (os os' : OsState) (life life' : Life) (k k' t1 : Nat) (pos : Pos) (y f : Nat → Obj) (e e' : Array (Int × Value)) (p p' : Nat) (u u' : SetTable) : CallsAt (r5 w os os' life life' k k' t1 pos (l17 y) (l21 (puts (puts f 31 (fz e p u)) 32 (fz e' p' u')))) (st2 w.params life os k 187 [ent w.params "ASCII_CTRL" t1 (.ref 31)] 10 (l21 (puts (puts f 31 (fz e p u)) 32 (fz e' p' u')))) (.builtin "frozenset.__sub__") [.ref 31, .ref 32] := by unfold CallsAt; kernel_rfl
theorem seg5b (w : World) (os os' os2 : OsState) (life life' life2 : Life) (k k' k2 t1 : Nat) (pos : Pos) (y z f : Nat → Obj) (e e' : Array (Int × Value)) (p p' : Nat) (u u' : SetTable) : RestsAt (r5b w os os' os2 life life' life2 k k' k2 t1 pos (l17 y) (l21 (puts (puts z 31 (fz e p u)) 32 (fz e' p' u'))) (l22 f)) (st2 w.params life os (k + 2) 187 [ent w.params "ASCII_CTRL" t1 (.ref 31), ent w.params "ILLEGAL_BASIC_STR_CHARS" k (.ref 36), ent w.params "ILLEGAL_COMMENT_CHARS" (k + 1) (.ref 36)] 12 (l22 f)) 4 := by unfold RestsAt; kernel_rfl
end
section
open PySem PySem.W PyProof.Rows PySem.Calls
set_option maxRecDepth 100000
noncomputable def r6 (w : World) (os : OsState) (life : Life) (k t1 t2 t3 : Nat) (pos : Pos) (xs : List Obj) : Option (Shared × Thread) := goI treeTable P0 w 6 (st2 w.params life os k 187 [ent w.params "ASCII_CTRL" t1 (.ref 31), ent w.params "ILLEGAL_BASIC_STR_CHARS" t2 (.ref 36), ent w.params "ILLEGAL_COMMENT_CHARS" t3 (.ref 36)] 12 xs) (rest 4 pos)
noncomputable def r6b (w : World) (os os' : OsState) (life life' : Life) (k k' t1 t2 t3 : Nat) (pos : Pos) (ys xs : List Obj) : Option (Shared × Thread) := goI treeTable P0 w 8 (st2 w.params life os k 187 [ent w.params "ASCII_CTRL" t1 (.ref 31), ent w.params "ILLEGAL_BASIC_STR_CHARS" t2 (.ref 36), ent w.params "ILLEGAL_COMMENT_CHARS" t3 (.ref 36)] 12 xs) (onT (thr (r6 w os' life' k' t1 t2 t3 pos ys)) (.ref 37))
noncomputable def r7 (w : World) (os : OsState) (life : Life) (k t1 t2 t3 t4 : Nat) (pos : Pos) (xs : List Obj) : Option (Shared × Thread) := goI treeTable P0 w 8 (st2 w.params life os k 187 [ent w.params "ASCII_CTRL" t1 (.ref 31), ent w.params "ILLEGAL_BASIC_STR_CHARS" t2 (.ref 36), ent w.params "ILLEGAL_COMMENT_CHARS" t3 (.ref 36), ent w.params "TOML_WS" t4 (.ref 37)] 13 xs) (rest 5 pos)
noncomputable def r8 (w : World) (os os' : OsState) (life life' : Life) (k k' t1 t2 t3 t4 : Nat) (pos : Pos) (ys xs : List Obj) : Option (Shared × Thread) := goI treeTable P0 w 5 (st2 w.params life os k 187 [ent w.params "ASCII_CTRL" t1 (.ref 31), ent w.params "ILLEGAL_BASIC_STR_CHARS" t2 (.ref 36), ent w.params "ILLEGAL_COMMENT_CHARS" t3 (.ref 36), ent w.params "TOML_WS" t4 (.ref 37)] 13 xs) (onT (thr (r7 w os' life' k' t1 t2 t3 t4 pos ys)) (.ref 41))
noncomputable def r8b (w : World) (os os' os2 : OsState) (life life' life2 : Life) (k k' k2 t1 t2 t3 t4 : Nat) (pos : Pos) (ys zs xs : List Obj) : Option (Shared × Thread) := goI treeTable P0 w 8 (st2 w.params life os k 187 [ent w.params "ASCII_CTRL" t1 (.ref 31), ent w.params "ILLEGAL_BASIC_STR_CHARS" t2 (.ref 36), ent w.params "ILLEGAL_COMMENT_CHARS" t3 (.ref 36), ent w.params "TOML_WS" t4 (.ref 37)] 13 xs) (onT (thr (r8 w os2 os' life2 life' k2 k' t1 t2 t3 t4 pos ys zs)) (.ref 45))
theorem seg6 (w : World) (os : OsState) (life : Life) (k t1 t2 t3 : Nat) (pos : Pos) (f : Nat → Obj) : CallsAt (r6 w os life k t1 t2 t3 pos (l22 f)) (st2 w.params life os (k + 1) 187 [ent w.params "ASCII_CTRL" t1 (.ref 31), ent w.params "ILLEGAL_BASIC_STR_CHARS" t2 (.ref 36), ent w.params "ILLEGAL_COMMENT_CHARS" t3 (.ref 36)] 12 (l22 f)) (.type "frozenset") [.str ⟨#[32, 9]⟩ k] := by unfold CallsAt; kernel_rfl
theorem seg6b (w : World) (os os' : OsState) (life life' : Life) (k k' t1 t2 t3 : Nat) (pos : Pos) (y f : Nat → Obj) : RestsAt (r6b w os os' life life' k k' t1 t2 t3 pos (l22 y) (l26 f)) (st2 w.params life os (k + 1) 187 [ent w.params "ASCII_CTRL" t1 (.ref 31), ent w.params "ILLEGAL_BASIC_STR_CHARS" t2 (.ref 36), ent w.params "ILLEGAL_COMMENT_CHARS" t3 (.ref 36), ent w.params "TOML_WS" k (.ref 37)] 13 (l26 f)) 5 := by unfold RestsAt; kernel_rfl
theorem seg7 (w : World) (os : OsState) (life : Life) (k t1 t2 t3 t4 : Nat) (pos : Pos) (f : Nat → Obj) : CallsAt (r7 w os life k t1 t2 t3 t4 pos (l26 f)) (st2 w.params life os (k + 1) 187 [ent w.params "ASCII_CTRL" t1 (.ref 31), ent w.params "ILLEGAL_BASIC_STR_CHARS" t2 (.ref 36), ent w.params "ILLEGAL_COMMENT_CHARS" t3 (.ref 36), ent w.params "TOML_WS" t4 (.ref 37)] 13 (l26 f)) (.type "frozenset") [.str ⟨#[10]⟩ k] := by unfold CallsAt; kernel_rfl
theorem seg8 (w : World) (os os' : OsState) (life life' : Life) (k k' t1 t2 t3 t4 : Nat) (pos : Pos) (y f : Nat → Obj) (e e' : Array (Int × Value)) (p p' : Nat) (u u' : SetTable) : CallsAt (r8 w os os' life life' k k' t1 t2 t3 t4 pos (l26 y) (l30 (puts (puts f 37 (fz e p u)) 41 (fz e' p' u')))) (st2 w.params life os k 187 [ent w.params "ASCII_CTRL" t1 (.ref 31), ent w.params "ILLEGAL_BASIC_STR_CHARS" t2 (.ref 36), ent w.params "ILLEGAL_COMMENT_CHARS" t3 (.ref 36), ent w.params "TOML_WS" t4 (.ref 37)] 13 (l30 (puts (puts f 37 (fz e p u)) 41 (fz e' p' u')))) (.builtin "frozenset.__or__") [.ref 37, .ref 41] := by unfold CallsAt; kernel_rfl
theorem seg8b (w : World) (os os' os2 : OsState) (life life' life2 : Life) (k k' k2 t1 t2 t3 t4 : Nat) (pos : Pos) (y z f : Nat → Obj) (e e' : Array (Int × Value)) (p p' : Nat) (u u' : SetTable) : RestsAt (r8b w os os' os2 life life' life2 k k' k2 t1 t2 t3 t4 pos (l26 y) (l30 (puts (puts z 37 (fz e p u)) 41 (fz e' p' u'))) (l31 f)) (st2 w.params life os (k + 1) 187 [ent w.params "ASCII_CTRL" t1 (.ref 31), ent w.params "ILLEGAL_BASIC_STR_CHARS" t2 (.ref 36), ent w.params "ILLEGAL_COMMENT_CHARS" t3 (.ref 36), ent w.params "TOML_WS" t4 (.ref 37), ent w.params "TOML_WS_AND_NEWLINE" k (.ref 45)] 14 (l31 f)) 6 := by unfold RestsAt; kernel_rfl
end
section
open PySem PySem.W PyProof.Rows PySem.Calls
set_option maxRecDepth 100000
theorem single {c : Nat} {k : Str} (h : firsts (signAt ⟨#[c]⟩) 1 k = true) : k = ⟨#[c]⟩ := by
  unfold firsts at h
  obtain ⟨j, hj, e⟩ := List.any_eq_true.mp h
  have hj : j < 1 := List.mem_range.mp hj
  obtain rfl : j = 0 := by omega
  exact of_decide_eq_true e
theorem ty_hd : A0.handled = none := rfl
theorem L6 (w : World) (os : OsState) (life : Life) (k t1 t2 t3 t4 t5 : Nat) (pos : Pos) {xs : List Obj} (hx : xs.length = 31) (f36 : FS w (st2 w.params life os k 187 [ent w.params "ASCII_CTRL" t1 (.ref 31), ent w.params "ILLEGAL_BASIC_STR_CHARS" t2 (.ref 36), ent w.params "ILLEGAL_COMMENT_CHARS" t3 (.ref 36), ent w.params "TOML_WS" t4 (.ref 37), ent w.params "TOML_WS_AND_NEWLINE" t5 (.ref 45)] 14 xs).heap 36 (one ilC) 32) (f45 : FS w (st2 w.params life os k 187 [ent w.params "ASCII_CTRL" t1 (.ref 31), ent w.params "ILLEGAL_BASIC_STR_CHARS" t2 (.ref 36), ent w.params "ILLEGAL_COMMENT_CHARS" t3 (.ref 36), ent w.params "TOML_WS" t4 (.ref 37), ent w.params "TOML_WS_AND_NEWLINE" t5 (.ref 45)] 14 xs).heap 45 (one wsC) 3) :
    RTx w (st2 w.params life os k 187 [ent w.params "ASCII_CTRL" t1 (.ref 31), ent w.params "ILLEGAL_BASIC_STR_CHARS" t2 (.ref 36), ent w.params "ILLEGAL_COMMENT_CHARS" t3 (.ref 36), ent w.params "TOML_WS" t4 (.ref 37), ent w.params "TOML_WS_AND_NEWLINE" t5 (.ref 45)] 14 xs) (rest 6 pos) (Behind w os) := by
  obtain ⟨f, rfl⟩ := len31 hx
  obtain ⟨x, e1, e2⟩ := Option.map_eq_some_iff.mp (segC w os life k t1 t2 t3 t4 t5 pos f)
  obtain ⟨b, e⟩ := behind_of e2 f36 f45 rfl rfl
  obtain ⟨sE, f, r, z⟩ := end_reach (w := w) e b
  exact ⟨sE, f, goI_reach (show goI treeTable P0 w 547 _ _ = some (x.1, x.2) from e1) r, z⟩
theorem L5 (w : World) (os : OsState) (life : Life) (k t1 t2 t3 t4 : Nat) (pos : Pos) {xs : List Obj} (hx : xs.length = 26) (f36 : FS w (st2 w.params life os k 187 [ent w.params "ASCII_CTRL" t1 (.ref 31), ent w.params "ILLEGAL_BASIC_STR_CHARS" t2 (.ref 36), ent w.params "ILLEGAL_COMMENT_CHARS" t3 (.ref 36), ent w.params "TOML_WS" t4 (.ref 37)] 13 xs).heap 36 (one ilC) 32) (f37 : FS w (st2 w.params life os k 187 [ent w.params "ASCII_CTRL" t1 (.ref 31), ent w.params "ILLEGAL_BASIC_STR_CHARS" t2 (.ref 36), ent w.params "ILLEGAL_COMMENT_CHARS" t3 (.ref 36), ent w.params "TOML_WS" t4 (.ref 37)] 13 xs).heap 37 (firsts (signAt ⟨#[32, 9]⟩) 2) 2) :
    RTx w (st2 w.params life os k 187 [ent w.params "ASCII_CTRL" t1 (.ref 31), ent w.params "ILLEGAL_BASIC_STR_CHARS" t2 (.ref 36), ent w.params "ILLEGAL_COMMENT_CHARS" t3 (.ref 36), ent w.params "TOML_WS" t4 (.ref 37)] 13 xs) (rest 5 pos) (Behind w os) := by
  obtain ⟨f0, rfl⟩ := len26 hx
  refine seg_call (n := 8) (Q := fun v s' => v = .ref 41 ∧ Grown 4 _ s' ∧ FS w s'.heap 41 (firsts (signAt ⟨#[10]⟩) 1) 1) (seg7 w os life k t1 t2 t3 t4 pos f0)
    (froz_text ty_hd (by decide +kernel) (by decide) (by decide) fun s' g f => ⟨rfl, g, f⟩) ?_
  rintro v s' ⟨rfl, g, f41⟩
  replace f36 := f36.keep (h' := s'.heap) fun o e => g.kp _ _ e
  replace f37 := f37.keep (h' := s'.heap) fun o e => g.kp _ _ e
  obtain ⟨life2, k2, ys, hy, rfl⟩ := st2_of g
  obtain ⟨fa, rfl⟩ := len30 hy
  obtain ⟨f1, e, p, u, e', p', u', rfl⟩ := puts2_of (f37.is_fz (x := fa 37) rfl) (f41.is_fz (x := fa 41) rfl)
  refine seg_call (n := 5) (Q := fun v s' => v = .ref 45 ∧ Grown 1 _ s' ∧ FS w s'.heap 45 (fun k => firsts (signAt ⟨#[32, 9]⟩) 2 k || firsts (signAt ⟨#[10]⟩) 1 k) 3) (seg8 w os os life2 life k2 k t1 t2 t3 t4 pos f0 f1 e e' p p' u u')
    (or_call (m := 7) (by decide) f37 f41 (by decide) (by decide) full7 (by decide) (by decide) (by decide) (by decide) (fun k hk => by rw [single hk]; decide) fun s' g f => ⟨rfl, g, f⟩) ?_
  rintro v s'' ⟨rfl, g2, f45⟩
  replace f36 := f36.keep (h' := s''.heap) fun o e => g2.kp _ _ e
  obtain ⟨life3, k3, zs, hz, rfl⟩ := st2_of g2
  obtain ⟨f2, rfl⟩ := len31 hz
  refine seg_rest (n := 8) (seg8b w os os os life3 life life2 k3 k k2 t1 t2 t3 t4 pos f0 f1 f2 e e' p p' u u') fun pos' => ?_
  exact L6 w os life3 (k3 + 1) t1 t2 t3 t4 k3 pos' rfl (f36.keep fun o e => e) (ws_is ▸ f45.keep fun o e => e)
theorem L4 (w : World) (os : OsState) (life : Life) (k t1 t2 t3 : Nat) (pos : Pos) {xs : List Obj} (hx : xs.length = 22) (f36 : FS w (st2 w.params life os k 187 [ent w.params "ASCII_CTRL" t1 (.ref 31), ent w.params "ILLEGAL_BASIC_STR_CHARS" t2 (.ref 36), ent w.params "ILLEGAL_COMMENT_CHARS" t3 (.ref 36)] 12 xs).heap 36 (one ilC) 32) :
    RTx w (st2 w.params life os k 187 [ent w.params "ASCII_CTRL" t1 (.ref 31), ent w.params "ILLEGAL_BASIC_STR_CHARS" t2 (.ref 36), ent w.params "ILLEGAL_COMMENT_CHARS" t3 (.ref 36)] 12 xs) (rest 4 pos) (Behind w os) := by
  obtain ⟨f0, rfl⟩ := len22 hx
  refine seg_call (n := 6) (Q := fun v s' => v = .ref 37 ∧ Grown 4 _ s' ∧ FS w s'.heap 37 (firsts (signAt ⟨#[32, 9]⟩) 2) 2) (seg6 w os life k t1 t2 t3 pos f0)
    (froz_text ty_hd (by decide +kernel) (by decide) (by decide) fun s' g f => ⟨rfl, g, f⟩) ?_
  rintro v s' ⟨rfl, g, f37⟩
  replace f36 := f36.keep (h' := s'.heap) fun o e => g.kp _ _ e
  obtain ⟨life2, k2, ys, hy, rfl⟩ := st2_of g
  obtain ⟨f1, rfl⟩ := len26 hy
  refine seg_rest (n := 8) (seg6b w os os life2 life k2 k t1 t2 t3 pos f0 f1) fun pos' => ?_
  exact L5 w os life2 (k2 + 1) t1 t2 t3 k2 pos' rfl (f36.keep fun o e => e) (f37.keep fun o e => e)
theorem L2 (w : World) (os : OsState) (life : Life) (k t1 : Nat) (pos : Pos) {xs : List Obj} (hx : xs.length = 17) (f31 : FS w (st2 w.params life os k 187 [ent w.params "ASCII_CTRL" t1 (.ref 31)] 10 xs).heap 31 (fun k => firsts chrS 32 k || firsts (signAt ⟨#[127]⟩) 1 k) 33) :
    RTx w (st2 w.params life os k 187 [ent w.params "ASCII_CTRL" t1 (.ref 31)] 10 xs) (rest 2 pos) (Behind w os) := by
  obtain ⟨f0, rfl⟩ := len17 hx
  refine seg_call (n := 8) (Q := fun v s' => v = .ref 32 ∧ Grown 4 _ s' ∧ FS w s'.heap 32 (firsts (signAt ⟨#[9]⟩) 1) 1) (seg4 w os life k t1 pos f0)
    (froz_text ty_hd (by decide +kernel) (by decide) (by decide) fun s' g f => ⟨rfl, g, f⟩) ?_
  rintro v s' ⟨rfl, g, f32⟩
  replace f31 := f31.keep (h' := s'.heap) fun o e => g.kp _ _ e
  obtain ⟨life2, k2, ys, hy, rfl⟩ := st2_of g
  obtain ⟨fa, rfl⟩ := len21 hy
  obtain ⟨f1, e, p, u, e', p', u', rfl⟩ := puts2_of (f31.is_fz (x := fa 31) rfl) (f32.is_fz (x := fa 32) rfl)
  refine seg_call (n := 5) (Q := fun v s' => v = .ref 36 ∧ Grown 1 _ s' ∧ FS w s'.heap 36 (fun k => (firsts chrS 32 k || firsts (signAt ⟨#[127]⟩) 1 k) && !firsts (signAt ⟨#[9]⟩) 1 k) 32) (seg5 w os os life2 life k2 k t1 pos f0 f1 e e' p p' u u')
    (sub_call (n := 32) (m := 127) (by decide) f31 f32 (by decide) (by decide) full127 (by decide) (by decide) (by decide) (by decide) (fun k hk => by rw [single hk]; decide) fun s' g f => ⟨rfl, g, f⟩) ?_
  rintro v s'' ⟨rfl, g2, f36⟩
  obtain ⟨life3, k3, zs, hz, rfl⟩ := st2_of g2
  obtain ⟨f2, rfl⟩ := len22 hz
  refine seg_rest (n := 18) (seg5b w os os os life3 life life2 k3 k k2 t1 pos f0 f1 f2 e e' p p' u u') fun pos' => ?_
  exact L4 w os life3 (k3 + 2) t1 k3 (k3 + 1) pos' rfl (il_is ▸ f36.keep fun o e => e)
end
section
open PySem PySem.W PyProof.Rows PySem.Calls
set_option maxRecDepth 100000
theorem sA_3 (w : World) (os : OsState) : (sA w os).heap.isNs 3 = true := by kernel_rfl
theorem sA_0 (w : World) (os : OsState) : (sA w os).heap.isNs 0 = true := by kernel_rfl
theorem sA_2 (w : World) (os : OsState) : (sA w os).heap.isNs cStatics = true := by kernel_rfl
theorem sA_20 (w : World) (os : OsState) : (sA w os).heap.isNs 20 = true := by kernel_rfl
theorem sA_lim (w : World) (os : OsState) : (sA w os).heap.nsMap cStatics "sys.recursionlimit" = none := by kernel_rfl
theorem sA_chr (w : World) (os : OsState) : (sA w os).heap.nsMap 3 "chr" = none ∧ (sA w os).heap.nsMap 0 "chr" = some (.builtin "chr") := ⟨by kernel_rfl, by kernel_rfl⟩
theorem frozA {w : World} {os : OsState} {E : Value → Shared → Prop} {Q : Value → Shared → Prop} (h : ∀ s', FinX 16 20 0 (sA w os) s' → FS w s'.heap 22 (firsts chrS 32) 32 → Q (.ref 22) s') :
    wpAny (model P0 w) A0 (call (.type "frozenset") [.ref 21]) Q E (sA w os) := by
  refine froz_gen (x := "i") (I := 16) (C := 20) (a := 21) (g := 0) (n₀ := 32) (val := chrS) (cenv := cenvT) (m := (sA w os).heap.nsMap 20)
    (K := fun h => h.Ns 3 ((sA w os).heap.nsMap 3) ∧ h.Ns 0 ((sA w os).heap.nsMap 0)) rfl (by decide) rfl (by decide +kernel) (by decide +kernel) (by decide +kernel) (by decide) (by decide) (by decide) ?_ ?_ ?_ (by decide) (by decide)
    ⟨o21, .str "<genexpr>" 198, .str "<genexpr>" 199, rfl, rfl, rfl, rfl⟩ (by exact rfl) (by exact rfl) (.of_isNs (sA_20 w os)) ⟨.of_isNs (sA_3 w os), .of_isNs (sA_0 w os)⟩ (by decide) ?_ h
  · rintro h h' ⟨k3, k0⟩ hk
    exact ⟨k3.at' fun o e => hk 3 o (by decide) (by decide) (by show (3 : Nat) ≠ 22; decide) e, k0.at' fun o e => hk 0 o (by decide) (by decide) (by show (0 : Nat) ≠ 22; decide) e⟩
  · rintro A' E' i t s₂ m₂ Q hi ⟨k3, k0⟩ hn hm hq
    refine Call_ ?_
    refine Name_function_global (env := cenvT) rfl (by decide +kernel) (loadGlobal_builtin (env := cenvT) k3 (sA_chr w os).1 k0 (sA_chr w os).2 ?_)
    refine PyProof.Rows.callWith_builtin1 ?_
    refine args_cons ?_
    refine nm (env := cenvT) hn hm ?_ rfl (by decide +kernel) (by decide)
    refine args_nil ?_
    refine chr_of_range (by omega) (by omega) ?_
    rw [Int.toNat_natCast]
    exact hq _ _
  · exact ⟨_, .of_isNs (sA_2 w os), fun h hn => ⟨_, hn, sA_lim w os⟩⟩
  · decide +kernel
theorem st2_of_fin {w : World} {os : OsState} {s' : Shared} (g : FinX 16 20 0 (sA w os) s') : ∃ life k ys, ys.length = 12 ∧ s' = st2 w.params life os k 187 [] 9 ys := by
  have e := hp_form (h := s'.heap) (P := w.params) (life := (boot_heap w.params).life) (n := 187) (more := []) (ep := 9) (xs := [o15, o16, o17, o18, o19, o20 w.params, o21]) fun b o hb q => g.kp b o (by rintro rfl; exact absurd hb (by decide)) (by rintro rfl; exact absurd hb (by decide)) q
  have hg : s'.gens = #[.finished] := by
    have h1 : s'.gens.size = 1 := g.ge.1
    have h2 := g.fi
    apply Array.ext
    · exact h1
    · intro i hi hi'
      have hi' : i < 1 := hi'
      obtain rfl : i = 0 := by omega
      rw [Array.getElem?_eq_getElem hi] at h2
      exact Option.some.inj h2
  refine ⟨s'.heap.life, s'.toks, s'.heap.objs.toList.drop 15, ?_, ?_⟩
  · rw [List.length_drop, Array.length_toList, g.sz]; rfl
  · have a := g.dr
    have b := g.os
    obtain ⟨heap, gens, drawn, toks, os'⟩ := s'
    dsimp only at a b hg e
    subst a; subst b; subst hg
    show Shared.mk heap _ _ _ _ = Shared.mk _ _ _ _ _
    exact congrArg (fun h => Shared.mk h _ _ _ _) e
theorem L1 (w : World) (os : OsState) : RTx w (s0c w os) (onT (thr (r0 w os)) (.ref 15)) (Behind w os) := by
  refine seg_call (n := 41) (Q := fun v s' => v = .ref 22 ∧ FinX 16 20 0 (sA w os) s' ∧ FS w s'.heap 22 (firsts chrS 32) 32) (segA w os).1 (frozA fun s' g f => ⟨rfl, g, f⟩) ?_
  rintro v s' ⟨rfl, g, f22⟩
  show RTx w s' (onT (thr (rA w w os)) _) _
  rw [(segA w os).2]
  obtain ⟨lifeA, kA, ws, hw, rfl⟩ := st2_of_fin g
  obtain ⟨f0, rfl⟩ := len12 hw
  refine seg_call (n := 15) (Q := fun v s' => v = .ref 27 ∧ Grown 4 _ s' ∧ FS w s'.heap 27 (firsts (signAt ⟨#[127]⟩) 1) 1) (seg2 w os os lifeA kA f0)
    (froz_text ty_hd (by decide +kernel) (by decide) (by decide) fun s' g f => ⟨rfl, g, f⟩) ?_
  rintro v s' ⟨rfl, g1, f27⟩
  replace f22 := f22.keep (h' := s'.heap) fun o e => g1.kp _ _ e
  obtain ⟨life2, k2, ys, hy, rfl⟩ := st2_of g1
  obtain ⟨fa, rfl⟩ := len16 hy
  obtain ⟨f1, e, p, u, e', p', u', rfl⟩ := puts2_of (f22.is_fz (x := fa 22) rfl) (f27.is_fz (x := fa 27) rfl)
  refine seg_call (n := 5) (Q := fun v s' => v = .ref 31 ∧ Grown 1 _ s' ∧ FS w s'.heap 31 (fun k => firsts chrS 32 k || firsts (signAt ⟨#[127]⟩) 1 k) 33) (seg3 w os os os life2 lifeA k2 kA f0 f1 e e' p p' u u')
    (or_call (n := 32) (m := 127) (by decide) f22 f27 (by decide) (by decide) full127 (by decide) (by decide) (by decide) (by decide) (fun k hk => by rw [single hk]; decide +kernel) fun s' g f => ⟨rfl, g, f⟩) ?_
  rintro v s'' ⟨rfl, g2, f31⟩
  obtain ⟨life3, k3, zs, hz, rfl⟩ := st2_of g2
  obtain ⟨f2, rfl⟩ := len17 hz
  refine seg_rest (n := 8) (seg3b w os os os os life3 lifeA life2 k3 kA k2 f0 f1 f2 e e' p p' u u') fun pos' => ?_
  exact L2 w os life3 (k3 + 1) k3 pos' rfl (f31.keep fun o e => e)
theorem top_runs (w : World) (os : OsState) : RTx w (bootS w os) (topStub P0) (Behind w os) := by
  obtain ⟨sE, f, r, z⟩ := L1 w os
  refine ⟨sE, f, ?_, z⟩
  refine goI_reach (n := 12) (thr_of (segPs w os)) ?_
  show RT w (sP w os) (thr (rP w os)) sE _
  rw [segPt' w os]
  obtain ⟨e, ht⟩ := (seg0 w os).run
  refine goI_reach (n := 18) e ?_
  generalize thr (r0 w os) = t at ht r
  obtain ⟨c, d, p, st⟩ := t
  have h1 : c = .call (.call (.type "range") ⟨[.int 32 189], []⟩) none (callG c) (callL c) (callK c) := congrArg Prod.fst ht
  have h2 : d = codeT := congrArg (fun x => x.2.1) ht
  have h3 : st = [topFrame default] := congrArg (fun x => x.2.2) ht
  clear ht
  subst h2; subst h3
  have r' : RT w (s0c w os) ⟨callK c (.ok (.ret (.ref 15))), codeT, p, [topFrame default]⟩ sE (.ret (.ok f)) := r
  rw [h1]
  exact goI_reach (seg0c w os (callG c) (callL c) (callK c) p) r'
end
section
open PySem PySem.W PyProof.Rows PySem.Calls
set_option maxRecDepth 100000
abbrev R0 : RowW := PySem.Challenge.rw_nb0115_01.row.toRowW
theorem ints_read {cl : Str → Option Addr} {h : Heap} : ∀ {ns : List Int} {vs : List Value} {as : List Addr}, ReadsAllW [] cl h vs (ns.map .int) as → vs.length = ns.length ∧ ∀ v ∈ vs, ∃ i t, v = .int i t
  | [], _, _, r => by cases r; exact ⟨rfl, fun v hv => by cases hv⟩
  | n :: ns, _, _, r => by
    cases r with
    | cons a b =>
      cases a
      obtain ⟨h1, h2⟩ := ints_read b
      refine ⟨by rw [List.length_cons, List.length_cons, h1], fun v hv => ?_⟩
      rcases List.mem_cons.mp hv with rfl | hv
      · exact ⟨_, _, rfl⟩
      · exact h2 v hv
theorem script_of {cl : Str → Option Addr} {h : Heap} {ns : List Int} {vs : List Value} {as : List Addr} (r : ReadsAllW [] cl h vs [.list (ns.map .int)] as) :
    ∃ a items, vs = [.ref a] ∧ h.IsList a items ∧ AllInts items ∧ items.size = ns.length := by
  cases r with
  | cons a b =>
    cases b
    cases a with
    | list ho hc hd hr =>
      obtain ⟨h1, h2⟩ := ints_read hr
      exact ⟨_, _, rfl, ⟨_, ho, hc, _, hd⟩, fun v hv => h2 v (Array.mem_toList_iff.mpr hv), by rw [← Array.length_toList, h1]⟩
theorem len_of {xs : List WData} (h : R0.pre.holds [] { args := [.list xs] } = true) : xs.length ≤ 63 := by
  by_cases q : (63 : Int) < (xs.length : Int)
  · exfalso
    have e : R0.pre.value [] { args := [.list xs] } = some (.bool false) := by
      show (WTm.and (.not (.lt (.lit (.int 63)) (.len (.arg 0)))) (.lit (.bool true))).value [] { args := [.list xs] } = _
      have l : less? (.int 63) (.int (xs.length : Int)) = some true := congrArg some (decide_eq_true q)
      simp [WTm.value, l]
    unfold WTm.holds at h
    rw [e] at h
    cases h
  · omega
end
section
open PySem PySem.W PyProof.Rows PySem.Calls
set_option maxRecDepth 100000
theorem law_pinned {w : World} {os : OsState} {s : Shared} (B : Behind w os s) : isTheDefsW P0 s.heap "law" := by
  obtain ⟨o, pm, e, d, _⟩ := B.inv.fn (19, 131, 130) (by decide)
  have saw := B.saw
  unfold sawC at saw
  simp only [Bool.and_eq_true] at saw
  have hg : s.heap.isNs mainGlobals = true := saw.1.1.1.1.1.1.1.1.1.1.1.1.1.1.1
  exact ⟨131, o, _, fnParams (stmtAt 19), fnBody (stmtAt 19), fnScope (stmtAt 19), (Pin.globalOf_eq hg _).trans (B.gl.gl "law" (.ref 131) (by rfl)), e, d, by kernel_rfl, by rfl, by rfl, rfl, rfl, rfl, rfl, rfl, rfl,
    .inl ⟨by rfl, rfl⟩, [], by rfl, .inl ⟨rfl, rfl⟩⟩
theorem call_from {w : World} {os : OsState} {s : Shared} (B : Behind w os s) (hz : s.asleep) {free : Addr → Prop} {gens : Prop} {kept : Heap → Prop} (hk : ∀ h, kept h) : R0.claim.CallFrom (callStub "law") w free gens kept s := by
  intro args hpre hlay ord hord
  obtain ⟨hp1, hp2⟩ := pre_splitW (r := R0) hpre
  obtain ⟨⟨vs, s₁⟩, hlaid⟩ := Option.isSome_iff_exists.mp (layAllW_isSome (R := []) (cl := classAt s.heap) (P := w.params) (ord := ord) (fun c h => by cases h) args R0.args s hp1)
  have keeps := layAllW_keeps _ _ _ hlaid
  have hal := layAllW_rest _ _ _ hlaid
  obtain ⟨as, hrd, hin, hold⟩ := reads_layAllW hord _ _ _ hlaid hlay s₁.heap (fun _ _ e => e)
  obtain ⟨d, r, rfl, hd, hr⟩ := hasAllW_cons hp1
  obtain rfl := hasAllW_nil hr
  obtain ⟨xs, rfl, hx⟩ := hasW_list hd
  obtain ⟨ns, rfl⟩ := items_int hx
  have hlen : ns.length ≤ 63 := by have := len_of hp2; rwa [List.length_map] at this
  obtain ⟨a, items, rfl, hl, hall, hsz⟩ := script_of hrd
  have K : Keep [] s.heap s₁.heap := .of_keeps [] keeps
  have I := B.inv.keep K
  have T := K.2 B.tab
  have saw := B.saw
  unfold sawC at saw
  simp only [Bool.and_eq_true, decide_eq_true_eq] at saw
  have t0 : s₁.heap.TableAt 92 88 #[] := (Heap.tab0At_spec saw.1.1.1.1.1.2).2.keeps keeps
  have hcode : wpAny (model P0 w) callerA (do match ← nsGet mainNs "law" with
      | some f => do ret (← call f [.ref a])
      | none => unsupported "claim.caller:no-such-global")
      (fun fin s' => ∃ f, fin = .done f ∧ ((f = .ret (.bool true) ∧ Keep [] s₁.heap s'.heap ∧ s'.os = s₁.os ∧ Kg s₁.gens s'.gens) ∧ leftWithCleanup s'.gens = false))
      (fun e s' => False) s₁ := by
    refine wpAny_bind (wpAny_nsGet I.g ?_)
    rw [show s.heap.nsMap 3 "law" = some (.ref 131) from B.gl.gl _ _ (by rfl)]
    refine wpAny_bind ?_
    refine law_spec (n := 0) (outer := []) B.gl ⟨rfl, rfl, rfl, by decide, by decide, fun b hb => by cases hb⟩ I T trivial hl (by intro z; cases z) hall (by omega) fun s' k _ ho hg => wpAny_pure ⟨_, rfl, ⟨rfl, k, ho, hg⟩, leftWithCleanup_false_of_bare (hg.2 fun x hx => ?_)⟩
    rw [show s₁.gens = s.gens from hal.1, B.gens] at hx
    obtain rfl : x = .finished := by simpa using hx
    rfl
  obtain ⟨k, r, s', s'', hrun, hsched, hfo, hf, K', hos, hg⟩ := thread_ends_bothG (prog := P0) (w := w) (s := s₁) (R := fun r s' => r = .ok (.ret (.bool true)) ∧ Keep [] s₁.heap s'.heap ∧ s'.os = s₁.os ∧ Kg s₁.gens s'.gens)
    (Shared.asleep_of_life hal.2.2.2 hz) (wpAny_mono hcode (fun fin s' ⟨f, e, ⟨e1, e2⟩, e3⟩ => ⟨f, e, ⟨by rw [e1], e2⟩, e3⟩) fun _ _ h => h.elim)
  subst hf
  obtain ⟨eh, _, _, eo, eg⟩ := Shared.forget_eq hfo
  rw [← eh] at K'
  rw [← eo] at hos
  have hlife : s'.heap.life = s.heap.life := (runN_life _ _ _ hrun).trans hal.2.2.2
  have old : ∀ b o, s₁.heap.get? b = some o → asItWas s₁.heap s'.heap b o := fun b o e => by
    by_cases hb : b = 88
    · subst hb
      obtain rfl : o = { cls := .none, data := .fields #[] } := Option.some.inj (e.symm.trans t0.2)
      obtain ⟨ps, _, t1, _⟩ := K'.2 T
      exact .inr (.inl ⟨t0.isCodeTable, rfl, #[], ps, rfl, by rw [Array.empty_append]; exact t1.2⟩)
    · exact .inl ((K'.1 b o e hb).1 (.inl (by intro z; cases z)))
  have hcls : ∀ b o, s₁.heap.get? b = some o → o.cls ≠ .none → s'.heap.get? b = some o := fun b o e hc => by
    by_cases hb : b = 88
    · subst hb
      obtain rfl : o = { cls := .none, data := .fields #[] } := Option.some.inj (e.symm.trans t0.2)
      exact absurd rfl hc
    · exact (K'.1 b o e hb).1 (.inl (by intro z; cases z))
  refine ⟨_, s₁, hlaid, k, _, s', hsched, .inl ⟨.bool true, rfl, fun _ => rfl, ⟨.bool true, _, [], as, .bool true, hrd.keepsK hcls, ?_, fun _ => ⟨List.nodup_nil, fun a ha => (nomatch ha), fun a ha => (nomatch ha)⟩, fun _ _ => ident_freeW (r := R0) rfl rfl rfl _ _⟩, (fun i hi => nomatch hi), (fun b o e _ _ _ => old b o e), (fun i hi => nomatch hi)⟩,
    fun _ i x hx => ?_, hk _, by rw [hlife], Shared.rest_eq (hos.trans hal.2.2.1)⟩
  · show (WShape.has [] (.bool true) .bool && WTm.holds [] (.eq .res (.lit (.bool true))) _) = true
    have e1 : WShape.has [] (.bool true) .bool = true := by decide +kernel
    have e2 : same (.bool true) (.bool true) = true := by decide +kernel
    rw [e1]
    simp [WTm.holds, WTm.value, e2]
  · have h1 : s₁.gens[i]? = some x := by rw [show s₁.gens = s.gens from hal.1]; exact hx
    have h2 := hg.1 i x h1
    have hxf : x = .finished := by
      rw [B.gens] at hx
      have := Array.mem_of_getElem? hx
      simpa using this
    subst hxf
    have h3 : (s'.gens.map GenState.forget)[i]? = (s''.gens.map GenState.forget)[i]? := by rw [eg]
    rw [Array.getElem?_map, Array.getElem?_map, h2] at h3
    obtain ⟨y, hy, hy'⟩ := Option.map_eq_some_iff.mp h3
    rw [hy, GenState.eq_of_forget_eq hy' rfl]
theorem behind_top (w : World) : (∃ s, AfterRun (opening P0) w s) ∧ ∀ s, AfterRun (opening P0) w s → ∃ s₀, fenceModules? P0 s = some s₀ ∧ s₀.gens = #[] ∧ ∃ s₁, TopRan P0 w s₀ s₁ ∧ s₁.asleep ∧ Behind w s₀.os s₁ := by
  have h := boot_open (p := P0) (N := 600) (by rfl) (by rfl) (fun s => by rfl) w
  rw [← table_eq_tree] at h
  obtain ⟨s₀, h2, e⟩ := Option.map_eq_some_iff.mp h
  obtain ⟨s, h4, h5⟩ := Option.bind_eq_some_iff.mp h2
  have A := AfterImport.of_importEnds h4
  refine ⟨⟨s, A⟩, fun s' hs' => ?_⟩
  obtain rfl : s' = s := AfterImport.unique hs' A
  have z : s₀.asleep := Shared.asleep_of_life (fence_lifeW h5) A.life
  simp only [Prod.mk.injEq] at e
  obtain ⟨e1, e2, e3, e4⟩ := e
  have e5 : s₀ = bootS w s₀.os := by
    obtain ⟨h, g, d, t, os⟩ := s₀
    dsimp only at e1 e2 e3 e4
    subst e1; subst e2; subst e3; subst e4
    rfl
  obtain ⟨s₁, f, r, B⟩ := top_runs w s₀.os
  rw [← e5] at r
  have hn : s₁.NoSusp := by
    intro x hx
    rw [B.gens] at hx
    obtain rfl : x = .finished := by simpa using hx
    rfl
  obtain ⟨a, l⟩ := ran_of r z hn.noCleanup hn
  have saw := B.saw
  unfold sawC at saw
  simp only [Bool.and_eq_true, decide_eq_true_eq] at saw
  obtain ⟨⟨⟨⟨⟨⟨⟨⟨⟨⟨⟨⟨⟨⟨⟨a1, a2⟩, a3⟩, a4⟩, a5⟩, a6⟩, a7⟩, a8⟩, a9⟩, a10⟩, a11⟩, a12⟩, a13⟩, a14⟩, a15⟩, a16⟩ := saw
  rw [← e1] at a14 a16
  have hi : importedModules P0.main.body = [] := by kernel_rfl
  refine ⟨s₀, h5, e2, s₁, ⟨a, l, Shared.rest_eq B.os, fun b o hb hq => B.old b o (e1 ▸ hb) (fun q => hq (.inr (.inl q))) (fun q => hq (.inl q)), ?_, ?_, Pin.keysAreStrs_of a1, fun x hx => (Pin.builtinOf_eq a2 x).trans (Heap.of_bltView a2 B.blt x hx), ?_, ?_, names_of_bound a15, laid_of_kept a16⟩, Shared.asleep_of_life l z, B⟩
  · rw [hi]; exact Heap.accountedI_of_ok a13
  · rw [hi]; exact statics_of_ok a14
  · obtain ⟨bm, ob, c1, _, c3, c4, c5, _⟩ := Heap.bmainOk_spec a12
    exact ⟨bm, ob, (Pin.globalOf_eq a1 _).trans c1, c3, c4, c5⟩
  · intro g hg
    rw [B.gens] at hg
    obtain rfl : g = .finished := by simpa using hg
    trivial
theorem holds_by : R0.claim.HoldsOpenBy (callStub "law") ["law"] PySem.Challenge.rw_nb0115_01.own false := by
  refine ⟨⟨⟨rfl, rfl, rfl, rfl, rfl, by decide +kernel⟩, by decide +kernel, rfl⟩, ⟨[.list [.int 3]], by decide +kernel, by decide +kernel⟩, fun w => ⟨(behind_top w).1, fun s hs => ?_⟩⟩
  obtain ⟨s₀, h1, h2, s₁, h3, h4, h5⟩ := (behind_top w).2 s hs
  refine ⟨s₀, h1, h2, s₁, h3, fun n hn => ?_, fun x hx => (nomatch hx), fun x hx => (nomatch hx), call_from h5 h4 fun _ q => by cases q⟩
  obtain rfl : n = "law" := by simpa using hn
  exact law_pinned h5
end
end
end Mine
open PySem PySem.W PyProof.Rows
namespace Mine
set_option maxRecDepth 100000 in
theorem said : PySem.Challenge.rw_nb0115_01.wellSaid = true := by
  unfold OpenLaw.wellSaid OpenRow.wellSaid OpenRow.partSaid looksOpen
  repeat' with_reducible refine look_both ?_ ?_
  all_goals decide +kernel
end Mine
set_option maxRecDepth 100000 in
set_option maxHeartbeats 8000000 in
theorem PySem.Challenge.cw_nb0115_01_holds : PySem.Challenge.rw_nb0115_01.Holds := by
  refine holds_law Mine.said fun said => ?_
  exact ⟨said, ⟨[.list [.int 3]], by decide +kernel, by decide +kernel⟩, Mine.holds_by⟩
