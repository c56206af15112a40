import PyProof.Rows.All
import Wide.All
import OpenK.AllK
import OpenK.XRun
import OpenK.ZRun
import Wide.FinOn
import PySem.Challenge.RW_kn0109_06
section
open PySem PySem.W PyProof.Rows
set_option Elab.async false
set_option maxRecDepth 100000
set_option maxHeartbeats 0
namespace Mine
open_top hdx for PySem.Challenge.rw_kn0109_06
end Mine
end
section
open PySem PySem.W PyProof.Rows
set_option Elab.async false
set_option maxRecDepth 100000
set_option maxHeartbeats 8000000
namespace Mine

/-- what the second field of an exception record says: nothing yet, or an entry whose flight mark is `fl` -/
def Tb (base h : Heap) (e : Addr) (vs : Array Value) : Option Value → Prop
  | none => vs[1]? = some .none
  | some fl => ∃ T oT ts, vs[1]? = some (.ref T) ∧ base.get? T = none ∧ T ≠ e ∧ h.get? T = some oT ∧ oT.data = .fields ts ∧ ts[3]? = some fl

/-- an exception record at `e` of which `P` is known, over frames `l` -/
def ExcIn (base : Heap) (l : List Env) (e : Addr) (P : Obj → Prop) (st : Option Value) (h : Heap) : Prop :=
  base.StaysIn h ∧ base.get? e = none ∧ h.FunFrames base l ∧ ∃ oe vs, h.get? e = some oe ∧ P oe ∧ oe.data = .fields vs ∧ Tb base h e vs st

/-- what is known does not hang on the entry -/
def Still (P : Obj → Prop) : Prop := ∀ o vs v, P o → o.data = .fields vs → P (Obj.mapFields (·.setIfInBounds 1 v) o)

theorem Tb.size {base h : Heap} {e : Addr} {vs : Array Value} {st : Option Value} (t : Tb base h e vs st) : 1 < vs.size := by
  cases st with
  | none => exact (Array.getElem?_eq_some_iff.mp t).1
  | some fl => obtain ⟨_, _, _, h1, _⟩ := t; exact (Array.getElem?_eq_some_iff.mp h1).1

section
variable {M : Model} {A : Around} {E : Value → Shared → Prop} {s : Shared}

theorem entryP {base : Heap} {env : Env} {outer : List Env} {L e : Addr} {oe : Obj} {vs : Array Value} {head : Value} {b : Bool} {P : Obj → Prop} {Q : Unit → Shared → Prop} (hP : Still P)
    (hfr : A.frames = some (env :: outer)) (hf : env.frame = some L) (hb : base.StaysIn s.heap) (hen : base.get? e = none) (hl : s.heap.FunFrames base (env :: outer))
    (he : s.heap.get? e = some oe) (hp : P oe) (hd : oe.data = .fields vs) (hsz : 1 < vs.size)
    (k : ∀ h', ExcIn base (env :: outer) e P (some (rawInt L)) h' → s.heap.UpToSlots h' → Q () { s with heap := h' }) :
    wpAny M A (do setField (.ref e) 1 (← EntryCells.newEntry head (← frameOf env) .none (rawInt L) .none (← entryPlaceOf L b))) Q E s := by
  refine wpAny_bind (wpAny_frameOf_fun hfr hl hf fun h₁ hs => ?_)
  refine wpAny_bind (wpAny_entryPlaceOf fun pl hpl => ?_)
  unfold EntryCells.newEntry newFields
  refine wpAny_bind (wpAny_newObj_type ?_ (hpl.sizeOk5 _ _ _ _ _))
  have hnf : e ∉ (env :: outer).filterMap (·.frame) := by
    intro hm
    obtain ⟨_, o, ho, nf⟩ := hl.mem hm
    rw [he] at ho; cases ho
    exact nf vs hd
  have he₁ : h₁.get? e = some oe := (hs.2.1 e hnf).trans he
  generalize hob : ({ cls := .type "traceback", dict := none, data := .fields ([head, .ref L, .none, rawInt L, .none] ++ (if pl.isEmpty then List.replicate 6 Value.none else pl)).toArray } : Obj) = ob
  have hobd : ob.data = .fields ([head, .ref L, .none, rawInt L, .none] ++ (if pl.isEmpty then List.replicate 6 Value.none else pl)).toArray := by rw [← hob]
  have hobf : ob.isFreed = false := Obj.isFreed_of_fields hobd
  have he₂ : (h₁.push ob).get? e = some oe := Heap.get?_push_of_some _ he₁
  refine wpAny_setField he₂ hd hsz (k _ ?_ ?_)
  · have hTe : h₁.objs.size ≠ e := Nat.ne_of_gt (Heap.lt_size he₁)
    have hd' := Obj.data_mapFields hd (·.setIfInBounds 1 (Value.ref h₁.objs.size))
    have he' := Heap.get?_update_self (Obj.mapFields (·.setIfInBounds 1 (Value.ref h₁.objs.size))) he₂ (Obj.isFreed_of_fields hd')
    have keep : ∀ b o, b ≠ e → h₁.get? b = some o → ((h₁.push ob).update e (Obj.mapFields (·.setIfInBounds 1 (Value.ref h₁.objs.size)))).get? b = some o := fun b o hbe q => by
      rw [Heap.get?_update_other _ _ (Ne.symm hbe)]
      exact Heap.get?_push_of_some _ q
    have hT : ((h₁.push ob).update e (Obj.mapFields (·.setIfInBounds 1 (Value.ref h₁.objs.size)))).get? h₁.objs.size = some ob := by
      rw [Heap.get?_update_other _ _ (Ne.symm hTe)]
      exact Heap.get?_push_size _ hobf
    have b₁ : base.StaysIn h₁ := fun b o q => (hs.2.1 b fun hm => by rw [(hl.mem hm).1] at q; cases q).trans (hb b o q)
    refine ⟨fun b o q => keep b o (fun z => by rw [z, hen] at q; cases q) (b₁ b o q), hen, hl.of_keeps fun b o q nf => ?_, ?_⟩
    · obtain ⟨sl, q'⟩ := hs.2.2 b o q
      exact ⟨_, keep b _ (fun z => by rw [z, he] at q; cases q; exact nf vs hd) q', rfl⟩
    · exact ⟨_, _, he', hP oe vs _ hp hd, hd', h₁.objs.size, ob, _, by simp [hsz], b₁.fresh, hTe, hT, hobd, by simp⟩
  · intro b o q nf
    obtain ⟨sl, q'⟩ := hs.2.2 b o q
    refine ⟨sl, ?_⟩
    rw [Heap.get?_update_other _ _ (fun z => by rw [← z, he] at q; cases q; exact nf vs hd)]
    exact Heap.get?_push_of_some _ q'

theorem noteP {base : Heap} {env : Env} {outer : List Env} {L e : Addr} {P : Obj → Prop} {st : Option Value} {Q : Unit → Shared → Prop} (hP : Still P)
    (hfr : A.frames = some (env :: outer)) (hf : env.frame = some L) (hst : st = none ∨ st = some .none) (x : ExcIn base (env :: outer) e P st s.heap)
    (k : ∀ h', ExcIn base (env :: outer) e P (some (rawInt L)) h' → s.heap.UpToSlots h' → Q () { s with heap := h' }) :
    wpAny M A (noteFrame (.ref e) env) Q E s := by
  obtain ⟨hb, hen, hl, oe, vs, he, hp, hd, ht⟩ := x
  have hsz := ht.size
  unfold noteFrame
  simp only [hf]
  rcases hst with rfl | rfl
  · refine wpAny_bind (wpAny_field he hd ht ?_)
    rw [if_neg (by decide)]
    exact entryP hP hfr hf hb hen hl he hp hd hsz k
  · obtain ⟨T, oT, ts, h1, hbT, hTe, hT, hdT, h3⟩ := ht
    refine wpAny_bind (wpAny_field he hd h1 ?_)
    rw [if_pos (show (Value.ref T != Value.none) = true from by simp)]
    refine wpAny_bind (wpAny_field hT hdT h3 ?_)
    rw [if_neg (show ¬ ((Value.none == rawInt L) = true) from by simp [rawInt])]
    refine wpAny_bind (wpAny_setField hT hdT (Array.getElem?_eq_some_iff.mp h3).1 ?_)
    have other : ∀ b, b ≠ T → (s.heap.update T (Obj.mapFields (·.setIfInBounds 3 Value.none))).get? b = s.heap.get? b := fun b q => Heap.get?_update_other _ _ (Ne.symm q)
    have recd : ∀ b o, s.heap.get? b = some o → (∀ ws, o.data ≠ .fields ws) → b ≠ T := fun b o q nf z => by
      rw [z, hT] at q; cases q; exact nf ts hdT
    refine entryP hP hfr hf (fun b o q => (other b fun z => by rw [z, hbT] at q; cases q).trans (hb b o q)) hen (hl.of_keeps fun b o q nf => ⟨o, (other b (recd b o q nf)).trans q, rfl⟩) ((other e (Ne.symm hTe)).trans he) hp hd hsz
      fun h' x' u => k h' x' fun b o q nf => u b o ((other b (recd b o q nf)).trans q) nf

theorem flightP {base : Heap} {l : List Env} {e : Addr} {P : Obj → Prop} {fl : Value} {Q : Unit → Shared → Prop}
    (x : ExcIn base l e P (some fl) s.heap) (k : ∀ h', ExcIn base l e P (some .none) h' → s.heap.UpToSlots h' → Q () { s with heap := h' }) :
    wpAny M A (setFlight (.ref e) none) Q E s := by
  obtain ⟨hb, hen, hl, oe, vs, he, hp, hd, T, oT, ts, h1, hbT, hTe, hT, hdT, h3⟩ := x
  have h3' := (Array.getElem?_eq_some_iff.mp h3).1
  unfold setFlight
  refine wpAny_bind (wpAny_field he hd h1 ?_)
  rw [if_pos (show (Value.ref T != Value.none) = true from by simp)]
  have other : ∀ b, b ≠ T → (s.heap.update T (Obj.mapFields (·.setIfInBounds 3 ((none : Option Addr).elim Value.none fun f => rawInt f)))).get? b = s.heap.get? b := fun b q => Heap.get?_update_other _ _ (Ne.symm q)
  have recd : ∀ b o, s.heap.get? b = some o → (∀ ws, o.data ≠ .fields ws) → b ≠ T := fun b o q nf z => by
    rw [z, hT] at q; cases q; exact nf ts hdT
  refine wpAny_setField hT hdT h3' (k _ ⟨fun b o q => (other b fun z => by rw [z, hbT] at q; cases q).trans (hb b o q), hen, hl.of_keeps fun b o q nf => ⟨o, (other b (recd b o q nf)).trans q, rfl⟩,
    oe, vs, (other e (Ne.symm hTe)).trans he, hp, hd, T, _, _, h1, hbT, hTe, Heap.get?_update_self _ hT (Obj.isFreed_of_fields (Obj.data_mapFields hdT _)), Obj.data_mapFields hdT _, by simp [h3']⟩
    fun b o q nf => ⟨o.slots, (other b (recd b o q nf)).trans q⟩)

theorem leaveP {base : Heap} {env : Env} {outer : List Env} {L e : Addr} {P : Obj → Prop} {st : Option Value} {Q : Unit → Shared → Prop} (hP : Still P)
    (hfr : A.frames = some (env :: outer)) (hf : env.frame = some L) (hst : st = none ∨ st = some .none) (x : ExcIn base (env :: outer) e P st s.heap)
    (k : ∀ h', ExcIn base outer e P (some .none) h' → s.heap.UpToSlots h' → Q () { s with heap := h' }) :
    wpAny M A (leaving env (.ref e)) Q E s := by
  unfold leaving
  refine wpAny_bind (noteP hP hfr hf hst x fun h₁ x₁ u₁ => ?_)
  refine flightP x₁ fun h₂ x₂ u₂ => k h₂ ?_ (u₁.trans u₂)
  obtain ⟨a, b, ⟨_, _, c⟩, d⟩ := x₂
  exact ⟨a, b, c, d⟩

theorem noteAgainP {base : Heap} {env : Env} {l : List Env} {L e : Addr} {P : Obj → Prop} {Q : Unit → Shared → Prop} (hf : env.frame = some L)
    (x : ExcIn base l e P (some (rawInt L)) s.heap) (k : Q () s) : wpAny M A (noteFrame (.ref e) env) Q E s := by
  obtain ⟨_, _, _, oe, vs, he, _, hd, T, oT, ts, h1, _, _, hT, hdT, h3⟩ := x
  unfold noteFrame
  simp only [hf]
  refine wpAny_bind (wpAny_field he hd h1 ?_)
  rw [if_pos (show (Value.ref T != Value.none) = true from by simp)]
  refine wpAny_bind (wpAny_field hT hdT h3 ?_)
  rw [if_pos (show (rawInt L == rawInt L) = true from by simp)]
  exact wpAny_pure k
end
end Mine
end
section
open PySem PySem.W PyProof.Rows
set_option Elab.async false
set_option maxRecDepth 100000
set_option maxHeartbeats 8000000
namespace Mine

/-- an exception in flight: all that `G` holds (but the frames `l`) and the ledger `news` stay -/
def RaisedP (base G : Heap) (l : List Env) (e : Addr) (P : Obj → Prop) (news : List (Addr × Obj)) (h : Heap) : Prop :=
  ∃ B st, (st = none ∨ st = some Value.none) ∧ base.StaysIn B ∧ (∀ b o, G.get? b = some o → b ∉ l.filterMap (·.frame) → B.get? b = some o) ∧
    (∀ q ∈ news, B.get? q.1 = some q.2 ∧ G.get? q.1 = none ∧ base.get? q.1 = none) ∧ ExcIn B l e P st h

section
variable {M : Model} {A : Around} {E : Value → Shared → Prop} {s' : Shared} {base g h h₂ G : Heap} {outer : List Env} {L a e : Addr} {m : Str → Option Value} {name : Str} {scope : Scope} {cd : Value} {Q : Unit → Shared → Prop}
  {news ex : List (Addr × Obj)} {P : Obj → Prop} {oe : Obj} {vs : Array Value}

theorem raiseHere (K : Below A base outer g) (F : Fr g L h m) (N : News g L h news) (keep : ∀ b o, h.get? b = some o → h₂.get? b = some o) (hen : h.get? e = none) (he : h₂.get? e = some oe) (hp : P oe)
    (hd : oe.data = .fields vs) (h1 : vs[1]? = some .none) (hx : ∀ q ∈ ex, h₂.get? q.1 = some q.2 ∧ h.get? q.1 = none ∧ q.1 ≠ e) (hk : scope.kind = .function) :
    ∃ G, Fr g L G m ∧ RaisedP base G (envOf name scope L a cd :: outer) e P (ex ++ news) h₂ ∧ G.UpToSlots h₂ := by
  have K' := K.push (name := name) (scope := scope) (a := a) (cd := cd) F hk
  have hn : ∀ b o, g.get? b = some o → b ∉ news.map (·.1) := fun b o q hm => by
    obtain ⟨p, hp, rfl⟩ := List.mem_map.mp hm
    rw [(N p hp).2.2] at q; cases q
  have hL : L ∉ news.map (·.1) := fun hm => by
    obtain ⟨p, hp, z⟩ := List.mem_map.mp hm
    exact (N p hp).2.1 z
  have hbe : base.get? e = none := fresh_of_stays K'.stays hen
  have hb : ∀ {b o}, h.get? b = some o → b ∉ (envOf name scope L a cd :: outer).filterMap (·.frame) → (hideAll h₂ (e :: (envOf name scope L a cd :: outer).filterMap (·.frame))).get? b = some o := fun {b o} q hm =>
    hideAll_get _ (keep b o q) fun z => by
      rcases List.mem_cons.mp z with z | z
      · rw [z, hen] at q; cases q
      · exact hm z
  refine ⟨hideAll h (news.map (·.1)), ⟨?_, fun b o q => hideAll_get _ (F.keep b o q) (hn b o q), F.above⟩, ⟨hideAll h₂ (e :: (envOf name scope L a cd :: outer).filterMap (·.frame)), none, .inl rfl, ?_, ?_, ?_, ?_⟩, ?_⟩
  · obtain ⟨oL, es, ep, q, r⟩ := F.ns
    exact ⟨oL, es, ep, hideAll_get _ q hL, r⟩
  · exact fun b o q => hb (K'.stays b o q) fun hm => by rw [(K'.frames.mem hm).1] at q; cases q
  · exact fun b o q hm => hb (of_hideAll _ q) hm
  · intro q hq
    rcases List.mem_append.mp hq with hq | hq
    · obtain ⟨x1, x2, x3⟩ := hx q hq
      refine ⟨hideAll_get _ x1 fun z => ?_, ?_, fresh_of_stays K'.stays x2⟩
      · rcases List.mem_cons.mp z with z | z
        · exact x3 z
        · obtain ⟨_, o, ho, _⟩ := K'.frames.mem z
          rw [x2] at ho; cases ho
      · cases z : (hideAll h (news.map (·.1))).get? q.1 with
        | none => rfl
        | some o => have := of_hideAll _ z; rw [x2] at this; cases this
    · refine ⟨hb (N q hq).1 fun hm => ?_, hideAll_none _ (List.mem_map_of_mem hq), fresh_of_stays K.stays (N q hq).2.2⟩
      obtain ⟨env, he', hf⟩ := List.mem_filterMap.mp hm
      rcases List.mem_cons.mp he' with rfl | he'
      · exact (N q hq).2.1 (Option.some.inj hf).symm
      · obtain ⟨_, o, ho, _⟩ := K.frames.mem (List.mem_filterMap.mpr ⟨env, he', hf⟩)
        rw [(N q hq).2.2] at ho; cases ho
  · refine ⟨fun b o q => of_hideAll _ q, hideAll_none _ (.head _), ?_, oe, vs, he, hp, hd, h1⟩
    exact funFrames_hide (K'.frames.of_keeps fun b o q _ => ⟨o, keep b o q, rfl⟩) fun env he' b hf => .tail _ (List.mem_filterMap.mpr ⟨env, he', hf⟩)
  · exact Heap.UpToSlots.of_keeps fun b o q => keep b o (of_hideAll _ q)

theorem leaveOnP (hP : Still P) (K : Below A base outer g) (F : Fr g L G m) (R : RaisedP base G (envOf name scope L a cd :: outer) e P news s'.heap) (hsm : G.UpToSlots s'.heap)
    (hQ : ∀ h', RaisedP base g outer e P news h' → g.UpToSlots h' → Q () { s' with heap := h' }) :
    wpAny M (A.deeper (envOf name scope L a cd)) (leaving (envOf name scope L a cd) (.ref e)) Q E s' := by
  obtain ⟨B, st, hst, hB, hBG, hl, hx⟩ := R
  refine leaveP hP (Around.frames_deeper K.stack) rfl hst hx fun h' x' u => hQ h' ⟨B, _, .inr rfl, hB, fun b o q nm => hBG b o (F.keep b o q) fun hm => ?_, fun q hq => ⟨(hl q hq).1, kts_none F.keep (hl q hq).2.1, (hl q hq).2.2⟩, x'⟩
    ((Heap.UpToSlots.of_keeps F.keep).trans (hsm.trans u))
  rcases kts_mem hm with z | z
  · rw [z, kts_self F] at q; cases q
  · exact nm z

/-- noted and landed: the same, with no flight mark -/
theorem landP (hP : Still P) (K : Below A base outer g) (R : RaisedP base G (envOf name scope L a cd :: outer) e P news s'.heap) (hsm : G.UpToSlots s'.heap)
    (hQ : ∀ h', RaisedP base G (envOf name scope L a cd :: outer) e P news h' → G.UpToSlots h' → Q () { s' with heap := h' }) :
    wpAny M (A.deeper (envOf name scope L a cd)) (noteFrame (.ref e) (envOf name scope L a cd)) (fun _ s₂ => wpAny M (A.deeper (envOf name scope L a cd)) (setFlight (.ref e) none) Q E s₂) E s' := by
  obtain ⟨B, st, hst, hB, hBG, hl, hx⟩ := R
  refine noteP hP (Around.frames_deeper K.stack) rfl hst hx fun h₁ x₁ u₁ => ?_
  exact flightP x₁ fun h₂ x₂ u₂ => hQ h₂ ⟨B, _, .inr rfl, hB, hBG, hl, x₂⟩ (hsm.trans (u₁.trans u₂))

theorem landAgainP {A' : Around} {l : List Env} (R : ∃ B, base.StaysIn B ∧ (∀ b o, G.get? b = some o → b ∉ l.filterMap (·.frame) → B.get? b = some o) ∧ (∀ q ∈ news, B.get? q.1 = some q.2 ∧ G.get? q.1 = none ∧ base.get? q.1 = none) ∧ ExcIn B l e P (some .none) s'.heap) (hsm : G.UpToSlots s'.heap)
    (hQ : ∀ h', (∃ B, base.StaysIn B ∧ (∀ b o, G.get? b = some o → b ∉ l.filterMap (·.frame) → B.get? b = some o) ∧ (∀ q ∈ news, B.get? q.1 = some q.2 ∧ G.get? q.1 = none ∧ base.get? q.1 = none) ∧ ExcIn B l e P (some .none) h') → G.UpToSlots h' → Q () { s' with heap := h' }) :
    wpAny M A' (setFlight (.ref e) none) Q E s' := by
  obtain ⟨B, hB, hBG, hl, hx⟩ := R
  exact flightP hx fun h' x' u => hQ h' ⟨B, hB, hBG, hl, x'⟩ (hsm.trans u)
end
end Mine
end
section
open PySem PySem.W PyProof.Rows
set_option Elab.async false
set_option maxRecDepth 100000
set_option maxHeartbeats 8000000
namespace Mine
/-- an exception record: its class, its own dict, its tuple of arguments; no cause, no context -/
abbrev excObj (cls : Value) (dx : Option Addr) (t : Addr) (tb : Value) : Obj := { cls := cls, dict := dx, data := .fields #[.ref t, tb, .none, .none, .bool false, .none] }
/-- the hash of a written key, as x_run writes it -/
noncomputable abbrev xh (w : World) (k : Str) : Int := XFast.xw12210062019545310541 (w.params.strHash k.cps)
theorem xh_eq (w : World) (k : Str) (h : k.cps.isEmpty = false) : xh w k = PyData.keyHash w.params k := by
  unfold xh PyData.keyHash
  rw [h, XFast.xe12210062019545310541]; rfl
noncomputable abbrev faultDict0 (w : World) (t1 t2 : Nat) (c v : Value) : Obj := dictOf [⟨xh w "faultCode", .str "faultCode" t1, c⟩, ⟨xh w "faultString", .str "faultString" t2, v⟩] 2
abbrev faultDict (w : World) (t1 t2 : Nat) (c v : Value) : Obj := dictOf [⟨PyData.keyHash w.params "faultCode", .str "faultCode" t1, c⟩, ⟨PyData.keyHash w.params "faultString", .str "faultString" t2, v⟩] 2
local macro_rules | `(tactic| x_close) => `(tactic| (
  (rename Shared => s)
  (rename ∀ (_ _ _ : Addr) (_ : Heap) (_ _ _ : Nat), _ => hQ)
  (rename X.Mem _ _ _ _ => D)
  have h0 := D.at 0 _ _ rfl
  refine' hQ _ _ _ _ _ (s.toks + 6) (s.toks + 8) (fun b o q => D.old b o q (Bool.or_true _)) (D.at 4 _ _ rfl) (D.at 1 _ _ rfl) ?a
    ⟨(D.nw _ (List.mem_of_getElem? (i := 4) rfl)).2, (D.nw _ (List.mem_of_getElem? (i := 1) rfl)).2, (D.nw _ (List.mem_of_getElem? (i := 0) rfl)).2, D.ne 1 4 _ _ _ _ rfl rfl rfl, D.ne 0 4 _ _ _ _ rfl rfl rfl, D.ne 0 1 _ _ _ _ rfl rfl rfl⟩
  (case a => refine h0.trans ?_; kernel_rfl)))
theorem fault_X0 (w : World) (s : Shared) (KX : (hdx.heap_39 w.params).In s.heap) (c v : Value) (envs : List Env) (gd : Option (List Code)) (Q E : Value → Shared → Prop)
   (hQ : ∀ (e t dx : Addr) (h' : Heap) (tk t1 t2 : Nat), (∀ b o, s.heap.get? b = some o → h'.get? b = some o) → h'.get? e = some (excObj (.ref 51) (some dx) t .none) → h'.get? t = some { cls := .type "tuple", data := .seq #[] } → h'.get? dx = some (faultDict0 w t1 t2 c v) →
     (s.heap.get? e = none ∧ s.heap.get? t = none ∧ s.heap.get? dx = none ∧ t ≠ e ∧ dx ≠ e ∧ dx ≠ t) → Q (.ref e) { s with heap := h', toks := tk }) :
   wpAny (model PySem.Challenge.rw_kn0109_06.row.prog w) ({ handled := none, depth := 500, frames := some envs, guards := gd, units := 500 }) (call (.ref 51) [c, v]) Q E s := by
  x_run
theorem faultDict_eq (w : World) (t1 t2 : Nat) (c v : Value) : faultDict0 w t1 t2 c v = faultDict w t1 t2 c v := by
  unfold faultDict0 faultDict
  rw [xh_eq w "faultCode" (by decide +kernel), xh_eq w "faultString" (by decide +kernel)]
theorem fault_X (w : World) (s : Shared) (KX : (hdx.heap_39 w.params).In s.heap) (c v : Value) (envs : List Env) (gd : Option (List Code)) (Q E : Value → Shared → Prop)
   (hQ : ∀ (e t dx : Addr) (h' : Heap) (tk t1 t2 : Nat), (∀ b o, s.heap.get? b = some o → h'.get? b = some o) → h'.get? e = some (excObj (.ref 51) (some dx) t .none) → h'.get? t = some { cls := .type "tuple", data := .seq #[] } → h'.get? dx = some (faultDict w t1 t2 c v) →
     (s.heap.get? e = none ∧ s.heap.get? t = none ∧ s.heap.get? dx = none ∧ t ≠ e ∧ dx ≠ e ∧ dx ≠ t) → Q (.ref e) { s with heap := h', toks := tk }) :
   wpAny (model PySem.Challenge.rw_kn0109_06.row.prog w) ({ handled := none, depth := 500, frames := some envs, guards := gd, units := 500 }) (call (.ref 51) [c, v]) Q E s :=
  fault_X0 w s KX c v envs gd Q E fun e t dx h' tk t1 t2 a b c' d => hQ e t dx h' tk t1 t2 a b c' (by rw [← faultDict_eq]; exact d)
end Mine
namespace Mine
theorem weaken {α : Type} {M : Model} {A A' : Around} {t : Sem α} {Q : α → Shared → Prop} {E : Value → Shared → Prop} {s : Shared} (h : wpAny M A' t Q E s) (h1 : A.handled = A'.handled) (h2 : A.depth ≤ A'.depth)
    (h3 : A.frames = A'.frames) (h4 : A.guards = A'.guards) (h5 : A.units ≤ A'.units) : wpAny M A t Q E s := fun Γ p hΓ =>
  h Γ p ⟨hΓ.1.trans h1, Nat.le_trans hΓ.2.1 h2, fun l hl => hΓ.2.2.1 l (h3.trans hl), fun g hg => hΓ.2.2.2.1 g (h4.trans hg), Nat.le_trans hΓ.2.2.2.2 h5⟩
end Mine
end
section
open PySem PySem.W PyProof.Rows
set_option Elab.async false
set_option maxRecDepth 100000
set_option maxHeartbeats 8000000
namespace Mine

inductive XK where
  | index
  | value
  | key (k : Str)
  | fault (c s : Value)
def ExcLit (cls : Value) (dx : Option Addr) (t : Addr) (o : Obj) : Prop := ∃ tb, o = excObj cls dx t tb
theorem ExcLit.still {cls : Value} {dx : Option Addr} {t : Addr} : Still (ExcLit cls dx t) := by
  rintro o vs v ⟨tb, rfl⟩ _
  exact ⟨v, rfl⟩
abbrev tupOf (vs : Array Value) : Obj := { cls := .type "tuple", data := .seq vs }
abbrev unexpected : Str := "unexpected type in multicall result"
inductive XIs (w : World) : XK → (Obj → Prop) → List (Addr × Obj) → Prop
  | index : XIs w .index (fun o => o.cls = .type "IndexError") []
  | value (t : Addr) (tk : Nat) : XIs w .value (ExcLit (.type "ValueError") none t) [(t, tupOf #[.str unexpected tk])]
  | key (k : Str) (t : Addr) (tk : Nat) : XIs w (.key k) (ExcLit (.type "KeyError") none t) [(t, tupOf #[.str k tk])]
  | fault (c s : Value) (t dx : Addr) (t1 t2 : Nat) : XIs w (.fault c s) (ExcLit (.ref 51) (some dx) t) [(t, tupOf #[]), (dx, faultDict w t1 t2 c s)]
theorem XIs.still {w : World} {k : XK} {P : Obj → Prop} {ex : List (Addr × Obj)} (x : XIs w k P ex) : Still P := by
  cases x with
  | index => exact fun o vs v h _ => (Obj.cls_mapFields _ _).trans h
  | value t tk => exact ExcLit.still
  | key k t tk => exact ExcLit.still
  | fault c s t dx t1 t2 => exact ExcLit.still
inductive Out where
  | val (v : Value)
  | exc (k : XK)

/-- the place `i` of `vs` (from the front or from the end) holds `v` -/
def At (vs : Array Value) (i : Int) (v : Value) : Prop :=
  (0 ≤ i ∧ i < 2 ^ 63 ∧ vs[i.toNat]? = some v) ∨ (i < 0 ∧ -(2 ^ 63) ≤ i ∧ -(vs.size : Int) ≤ i ∧ vs[(i + vs.size).toNat]? = some v)

abbrev top1 (dp un : Nat) (gd : Option (List Code)) (env : Env) (outer : List Env) : Around := { handled := none, depth := dp, frames := some (env :: outer), guards := gd, units := un }

/-- `r[i]` comes out as `O`, in whatever frame -/
def Yields (w : World) (nw : List (Addr × Obj)) (r : Value) (i : Int) (D : Nat) (O : Out) : Prop :=
  ∀ (value : PySem.Expr) (sn : Str) (sp : Pos) (ti : Tok) (dp un : Nat) (gd : Option (List Code)) (cn : Str) (cs : Scope) (a : Addr) (ccd : Value) (outer : List Env) (A₀ : Around) (base h₀ : Heap) (L : Addr) (m : Str → Option Value) (s : Shared) (Q E : Value → Shared → Prop)
    (p : Program) (loose : List Str) (mean : ExcName → Option Value) (mg mb : Str → Option Value) (nw' : List (Addr × Obj)),
    Below A₀ base outer h₀ → Fr h₀ L s.heap m → (hdx.heap_39 w.params).In h₀ → News h₀ L s.heap nw' → Top p loose mean mg mb h₀ → cs.kind = .function → dp + D ≤ 400 → un + 8 * D ≤ 400 → (∀ q ∈ nw, q ∈ nw') →
    (match O with
      | .val v => ∀ h' tk', Fr h₀ L h' m → News h₀ L h' nw' → Q v { s with heap := h', toks := tk' }
      | .exc k => ∀ G e P ex h' tk', XIs w k P ex → Fr h₀ L G m → RaisedP base G (envOf cn cs L a ccd :: outer) e P (ex ++ nw') h' → G.UpToSlots h' → E (.ref e) { s with heap := h', toks := tk' }) →
    wpAny (model PySem.Challenge.rw_kn0109_06.row.prog w) (top1 dp un gd (envOf cn cs L a ccd) outer) (subscriptTail value (.Name sn sp) r (.int i ti)) Q E s

theorem yields_list {w : World} {nw : List (Addr × Obj)} {row : Addr} {vs : Array Value} {n : Nat} {i : Int} {v : Value} (hr : (row, listOf vs n) ∈ nw) (ha : At vs i v) : Yields w nw (.ref row) i 1 (.val v) := by
  intro value sn sp ti dp un gd cn cs a ccd outer A₀ base h₀ L m s Q E p loose mean mg mb nw' B F X N T hk hd hu hn post
  have hl : s.heap.IsList row vs := ⟨_, (N _ (hn _ hr)).1, rfl, n, rfl⟩
  refine tail_any hl.typeIs slot_list_getitem.lookup ?_ (by with_unfolding_all rfl)
  have q : Q v s := post s.heap s.toks F N
  rcases ha with ⟨h0, h1, h2⟩ | ⟨h0, h1, h2, h3⟩
  · exact wpAny_getItem_list hl h0 h1 h2 q
  · exact wpAny_getItem_list_neg hl h0 h2 h1 h3 q

theorem yields_out {w : World} {nw : List (Addr × Obj)} {row : Addr} {vs : Array Value} {n : Nat} {i : Int} (hr : (row, listOf vs n) ∈ nw) (ho : i < -(vs.size : Int) ∨ (vs.size : Int) ≤ i) (hlo : -(2 ^ 63) ≤ i) (hhi : i < 2 ^ 63) : Yields w nw (.ref row) i 1 (.exc .index) := by
  intro value sn sp ti dp un gd cn cs a ccd outer A₀ base h₀ L m s Q E p loose mean mg mb nw' B F X N T hk hd hu hn post
  have hl : s.heap.IsList row vs := ⟨_, (N _ (hn _ hr)).1, rfl, n, rfl⟩
  refine tail_any hl.typeIs slot_list_getitem.lookup (wpAny_getItem_list_out rfl hl ho hlo hhi fun h' tk e hx => ?_) (by with_unfolding_all rfl)
  obtain ⟨ob, t, he, hc, hd'⟩ := hx.there
  obtain ⟨G, F', R, U⟩ := raiseHere (name := cn) (scope := cs) (a := a) (cd := ccd) (P := fun o => o.cls = .type "IndexError") (ex := []) B F N hx.keeps hx.new he hc hd' rfl (fun _ h => nomatch h) hk
  exact post G e _ [] h' tk .index F' R U

end Mine
end
section
open PySem PySem.W PyProof.Rows PySem.Calls
set_option Elab.async false
set_option maxRecDepth 100000
set_option maxHeartbeats 8000000
namespace Mine

theorem item_at {prog : Program} {w : World} {A : Around} {E : Value → Shared → Prop} {s : Shared} {value slice : PySem.Expr} {l : Addr} {vs : Array Value} {k : Int} {u : Tok} {v : Value} {Q : Value → Shared → Prop}
    (hl : s.heap.IsList l vs) (ha : At vs k v) (h : Q v s)
    (hs : subscripted slice false (.ref l) (.int k u) = operate [.ref l, .int k u] (getItem (.ref l) (.int k u)) := by with_unfolding_all rfl) :
    wpAny (model prog w) A (subscriptTail value slice (.ref l) (.int k u)) Q E s := by
  refine tail_any hl.typeIs slot_list_getitem.lookup ?_ hs
  rcases ha with ⟨h0, h1, h2⟩ | ⟨h0, h1, h2, h3⟩
  · exact wpAny_getItem_list hl h0 h1 h2 h
  · exact wpAny_getItem_list_neg hl h0 h2 h1 h3 h

section
variable {prog : Program} {w : World} {A : Around} {E : Value → Shared → Prop} {s : Shared} {value slice : PySem.Expr} {l : Addr} {es : List DictEntry} {n : Nat} {x : Str} {t : Tok} {v : Value} {Q : Value → Shared → Prop} {h₀ : Heap} {L : Addr} {news : List (Addr × Obj)}

theorem dict_map (N : News h₀ L s.heap news) (hm : (l, dictOf es n) ∈ news) (hk : KeysLit w.params es) : s.heap.MapOf (strKind prog w) l (fun k => findBy Value.isStrOf es.toArray k) :=
  ⟨_, es.toArray, n, (N _ hm).1, ⟨rfl, rfl, rfl⟩, rfl, fun e he => by
    obtain ⟨x, t, e1, e2⟩ := hk.all e (by simpa using he)
    exact ⟨x, by rw [e1]; exact strKind_is prog w x t, e2⟩, fun _ => rfl⟩
theorem dict_find {r : Option Value} (e : getL x es = some r) : findBy Value.isStrOf es.toArray x = r := by
  unfold getL at e
  have q : (fun d : DictEntry => Value.isStrOf x d.key) = fun d => d.key.isStr x := funext fun d => (isStr_of x d.key).symm
  unfold findBy
  rw [List.find?_toArray, q]
  split at e
  · rename_i e' h'; rw [h']; exact Option.some.inj e
  · rename_i h'
    rw [h']
    split at e
    · cases e
    · exact Option.some.inj e
theorem dict_item (N : News h₀ L s.heap news) (hm : (l, dictOf es n) ∈ news) (hk : KeysLit w.params es) (e : getL x es = some (some v)) (h : Q v { s with toks := s.toks + 1 })
    (hs : subscripted slice false (.ref l) (.str x t) = operate [.ref l, .str x t] (getItem (.ref l) (.str x t)) := by with_unfolding_all rfl) :
    wpAny (model prog w) A (subscriptTail value slice (.ref l) (.str x t)) Q E s :=
  have m := dict_map (prog := prog) N hm hk
  tail_any m.typeIs slot_dict_getitem.lookup (wpAny_getItem_of (strKind_is prog w x t) m (dict_find e) h) hs

theorem raise_made {α : Type} {M : Model} {A : Around} {E : Value → Shared → Prop} {s : Shared} {cls : String} {args : List Value} {Q : α → Shared → Prop} (hp : PlainExc cls) (hh : A.handled = none)
    (h : ∀ h' e, Heap.MadeExc s.heap h' e cls args → E (.ref e) { s with heap := h' }) (hsz : args.length ≤ sizeLine) :
    wpAny M A (do raiseNew (← newExc (.type cls) args) : Sem α) Q E s := by
  refine wpAny_bind ?_
  unfold newExc newTuple
  refine wpAny_bind (wpAny_newObj_type ?_ (show args.toArray.size ≤ sizeLine by simpa using hsz))
  refine wpAny_bind (m := firstArgMember _ _) (wpAny_of_eq (a := Value.none) (by simp only [firstArgMember, hp.first]; rfl) ?_)
  rw [hp.own]
  refine wpAny_newObj_type ?_ (by size_fits)
  unfold raiseNew
  refine wpAny_bind (wpAny_handled ?_)
  rw [hh]
  first
    | refine wpAny_throw ?_
    | refine wpAny_bind (wpAny_pure (wpAny_throw ?_))
  refine h _ _ ⟨fun b o hb => Heap.get?_push_of_some _ (Heap.get?_push_of_some _ hb), Heap.get?_none_of_le (by simp), s.heap.objs.size, ?_, Heap.get?_none_of_le (Nat.le_refl _), Heap.get?_push_of_some _ (Heap.get?_push_size _ rfl)⟩
  exact Heap.get?_push_size _ rfl

theorem dict_missing (N : News h₀ L s.heap news) (hm : (l, dictOf es n) ∈ news) (hk : KeysLit w.params es) (e : getL x es = some none) (hd : (l == sysModules) = false) (hh : A.handled = none)
    (h : ∀ h' e, Heap.MadeExc s.heap h' e "KeyError" [.str x t] → E (.ref e) { s with heap := h', toks := s.toks + 1 })
    (hs : subscripted slice false (.ref l) (.str x t) = operate [.ref l, .str x t] (getItem (.ref l) (.str x t)) := by with_unfolding_all rfl) :
    wpAny (model prog w) A (subscriptTail value slice (.ref l) (.str x t)) Q E s := by
  have m := dict_map (prog := prog) N hm hk
  refine tail_any m.typeIs slot_dict_getitem.lookup ?_ hs
  unfold getItem
  try with_reducible refine wpAny_holding ?_
  refine wpAny_bind (wpAny_sequenceKey m.typeIs (by decide) ?_)
  refine wpAny_bind (wpAny_callSpecial?_slot (name := Str.ofString "__getitem__") m.typeIs slot_dict_getitem
    (wpAny_call_entry slot_dict_getitem m.typeIs entry_dict_getitem ?_ (args_dict_getitem _ _)))
  show wpAny _ _ (dictGet l (.str x t) >>= _) _ _ s
  refine wpAny_bind (wpAny_dictGet_of (strKind_is prog w x t) m ?_)
  rw [dict_find e]
  show wpAny _ _ (Builtin.Dict.missed l (.str x t) >>= _) _ _ _
  refine wpAny_bind (wpAny_missed_other hd ?_)
  refine wpAny_bind (wpAny_typeOf (s := { s with toks := s.toks + 1 }) m.typeIs ?_)
  show wpAny _ _ (if (Value.type "dict" != Value.type "dict") = true then _ else _) _ _ _
  rw [if_neg (by decide)]
  exact wpAny_bind (wpAny_rule (raise_made (A := A.in1) plainExc_KeyError hh h (by simp [sizeLine])))
end

/-- what a raised instance must be: a record of an exception class, fresh -/
def InstRaisable (M : Model) (h : Heap) (a : Addr) : Prop := ∃ o vs C, h.get? a = some o ∧ o.cls = .ref C ∧ o.data = .fields vs ∧ vs[1]? = some .none ∧ Looks M h (isSubtype (.ref C) (.type "BaseException")) true ∧ Looks M h (typeOf (.ref C)) (.type "type")
/-- an instance of an own exception class, raised -/
theorem Raise_inst {M : Model} {A : Around} {E : Value → Shared → Prop} {s : Shared} {env : Env} {e : Expr} {pos : Pos} {Q : Flow → Shared → Prop} (hh : A.handled = none)
    (h : wpAny M A (eval e env) (fun v s₁ => ∃ a, v = .ref a ∧ InstRaisable M s₁.heap a ∧ E (.ref a) s₁) E s) : wpAny M A (exec (.Raise (some e) none pos) env) Q E s := by
  show wpAny M A (do standAt pos; raiseStmt env (some (do let v ← eval e env; standAt pos; pure v)) none) Q E s
  refine wpAny_bind (wpAny_standAt ?_)
  unfold raiseStmt
  dsimp only
  refine wpAny_bind (wpAny_bind (wpAny_mono h (fun v s₁ h₁ => wpAny_bind (wpAny_standAt (wpAny_pure ?_))) fun _ _ x => x))
  obtain ⟨a, rfl, ⟨o, vs, C, ha, hc, hd, h1, hsub, hty⟩, hE⟩ := h₁
  have lt : Looks M s₁.heap (typeOf (.ref a)) (.ref C) := by
    have : Looks M s₁.heap (typeOf (.ref a)) o.cls := (Looks.ld ha).andThen .now
    rwa [hc] at this
  have li : Looks M s₁.heap (isType (.ref a)) false := by
    have : Looks M s₁.heap (isType (.ref a)) (match o.data with | .cls _ => true | _ => false) := (Looks.ld ha).andThen .now
    rwa [hd] at this
  refine wpAny_bind (wpAny_pure ?_)
  refine wpAny_bind ?_
  try with_reducible refine wpAny_holding ?_
  unfold excFromValue isExcClass
  refine wpAny_bind (wpAny_bind (li.here ?_))
  rw [if_neg Bool.false_ne_true]
  refine wpAny_pure ?_
  rw [if_neg Bool.false_ne_true]
  unfold isInstance
  refine wpAny_bind (wpAny_bind (lt.here (hsub.here ?_)))
  rw [if_pos rfl]
  refine wpAny_pure ?_
  refine wpAny_bind (li.here ?_)
  rw [if_neg Bool.false_ne_true]
  unfold raisedInstance
  refine wpAny_bind (wpAny_bind (lt.here (wpAny_bind (hty.here ?_))))
  rw [if_pos (by decide)]
  refine wpAny_pure ?_
  unfold setFlight
  refine wpAny_bind (wpAny_bind (wpAny_field ha hd h1 ?_))
  rw [if_neg (by decide)]
  refine wpAny_pure ?_
  unfold raiseNew
  refine wpAny_bind (wpAny_handled ?_)
  rw [hh]
  first
    | exact wpAny_throw hE
    | exact wpAny_bind (wpAny_pure (wpAny_throw hE))

structure MadeFault (w : World) (h h' : Heap) (e : Addr) (c v : Value) : Prop where
  keeps : ∀ b o, h.get? b = some o → h'.get? b = some o
  new : h.get? e = none
  there : ∃ t dx t1 t2, h'.get? e = some (excObj (.ref 51) (some dx) t .none) ∧ h'.get? t = some (tupOf #[]) ∧ h'.get? dx = some (faultDict w t1 t2 c v) ∧ h.get? t = none ∧ h.get? dx = none ∧ t ≠ e ∧ dx ≠ e

theorem sub_fault (w : World) : subIn (hdx.heap_39 w.params) (.ref 51) (.type "BaseException") = some true := by kernel_rfl
theorem type_fault (w : World) : typeIn (hdx.heap_39 w.params) (.ref 51) = some (.type "type") := by kernel_rfl
theorem MadeFault.raisable {M : Model} {w : World} {h₀ h h' : Heap} {L e : Addr} {m : Str → Option Value} {c v : Value} (mf : MadeFault w h h' e c v) (F : Fr h₀ L h m) (X : (hdx.heap_39 w.params).In h₀) : InstRaisable M h' e := by
  obtain ⟨t, dx, t1, t2, he, _⟩ := mf.there
  have X' := (X.keeps F.keep).keeps mf.keeps
  exact ⟨_, _, 51, he, rfl, rfl, rfl, looks_subIn X' (sub_fault w), looks_typeIn X' (type_fault w)⟩
theorem call_fault {w : World} {A : Around} {E : Value → Shared → Prop} {s : Shared} {h₀ : Heap} {L : Addr} {m : Str → Option Value} {c v : Value} {envs : List Env} {Q : Value → Shared → Prop} (F : Fr h₀ L s.heap m) (X : (hdx.heap_39 w.params).In h₀)
    (hh : A.handled = none) (hf : A.frames = some envs) (hd : A.depth ≤ 500) (hu : A.units ≤ 500)
    (h : ∀ e h' tk, MadeFault w s.heap h' e c v → Q (.ref e) { s with heap := h', toks := tk }) :
    wpAny (model PySem.Challenge.rw_kn0109_06.row.prog w) A (call (.ref 51) [c, v]) Q E s :=
  weaken (fault_X w s (X.keeps F.keep) c v envs A.guards Q E fun e t dx h' tk t1 t2 k he ht hx ⟨n1, n2, n3, n4, n5, _⟩ => h e h' tk ⟨k, n1, t, dx, t1, t2, he, ht, hx, n2, n3, n4, n5⟩) hh hd hf rfl hu

section
variable {M : Model} {A : Around} {E : Value → Shared → Prop} {s' : Shared} {base g h : Heap} {outer : List Env} {L a e : Addr} {m : Str → Option Value} {name : Str} {scope : Scope} {cd cls : Value} {Q : Unit → Shared → Prop}
    {news : List (Addr × Obj)} {args : List Value}
theorem leave_madeP (K : Below A base outer g) (hx : Heap.MadeExcOf h s'.heap e cls args) (F : Fr g L h m) (N : News g L h news)
    (hQ : ∀ h' t, RaisedP base g outer e (ExcLit cls none t) ([(t, tupOf args.toArray)] ++ news) h' → g.UpToSlots h' → Q () { s' with heap := h' }) (hk : scope.kind = .function) :
    wpAny M (A.deeper (envOf name scope L a cd)) (leaving (envOf name scope L a cd) (.ref e)) Q E s' := by
  obtain ⟨t, he, htn, ht⟩ := hx.there
  obtain ⟨G, F', R, U⟩ := raiseHere (name := name) (scope := scope) (a := a) (cd := cd) (P := ExcLit cls none t) (ex := [(t, tupOf args.toArray)]) K F N hx.keeps hx.new he ⟨_, rfl⟩ rfl rfl (fun q hq => by
    rw [List.mem_singleton.mp hq]
    refine ⟨ht, htn, fun z => ?_⟩
    have z' : t = e := z
    rw [z', he] at ht; cases ht) hk
  exact leaveOnP ExcLit.still K F' R U fun h' => hQ h' t
theorem leave_indexP (K : Below A base outer g) (hx : Heap.NewExc h s'.heap e "IndexError") (F : Fr g L h m) (N : News g L h news)
    (hQ : ∀ h', RaisedP base g outer e (fun o => o.cls = .type "IndexError") ([] ++ news) h' → g.UpToSlots h' → Q () { s' with heap := h' }) (hk : scope.kind = .function) :
    wpAny M (A.deeper (envOf name scope L a cd)) (leaving (envOf name scope L a cd) (.ref e)) Q E s' := by
  obtain ⟨ob, t, he, hc, hd⟩ := hx.there
  obtain ⟨G, F', R, U⟩ := raiseHere (name := name) (scope := scope) (a := a) (cd := cd) (P := fun o => o.cls = .type "IndexError") (ex := []) K F N hx.keeps hx.new he hc hd rfl (fun _ h => nomatch h) hk
  exact leaveOnP (fun o vs v h _ => (Obj.cls_mapFields _ _).trans h) K F' R U hQ
theorem leave_faultP {w : World} {c v : Value} (K : Below A base outer g) (hx : MadeFault w h s'.heap e c v) (F : Fr g L h m) (N : News g L h news)
    (hQ : ∀ h' t dx t1 t2, RaisedP base g outer e (ExcLit (.ref 51) (some dx) t) ([(t, tupOf #[]), (dx, faultDict w t1 t2 c v)] ++ news) h' → g.UpToSlots h' → Q () { s' with heap := h' }) (hk : scope.kind = .function) :
    wpAny M (A.deeper (envOf name scope L a cd)) (leaving (envOf name scope L a cd) (.ref e)) Q E s' := by
  obtain ⟨t, dx, t1, t2, he, ht, hd, n1, n2, n3, n4⟩ := hx.there
  obtain ⟨G, F', R, U⟩ := raiseHere (name := name) (scope := scope) (a := a) (cd := cd) (P := ExcLit (.ref 51) (some dx) t) (ex := [(t, tupOf #[]), (dx, faultDict w t1 t2 c v)]) K F N hx.keeps hx.new he ⟨_, rfl⟩ rfl rfl (fun q hq => by
    rcases List.mem_cons.mp hq with rfl | hq
    · exact ⟨ht, n1, n3⟩
    · rw [List.mem_singleton.mp hq]; exact ⟨hd, n2, n4⟩) hk
  exact leaveOnP ExcLit.still K F' R U fun h' => hQ h' t dx t1 t2
end
end Mine
end
section
open PySem PySem.W PyProof.Rows PySem.Calls
set_option Elab.async false
set_option maxRecDepth 100000
set_option maxHeartbeats 8000000
namespace Mine

/-- landed in the frame at hand: no flight mark, all else as it was -/
def RaisedL (base G : Heap) (l : List Env) (e : Addr) (P : Obj → Prop) (news : List (Addr × Obj)) (h : Heap) : Prop :=
  ∃ B, base.StaysIn B ∧ (∀ b o, G.get? b = some o → b ∉ l.filterMap (·.frame) → B.get? b = some o) ∧
    (∀ q ∈ news, B.get? q.1 = some q.2 ∧ G.get? q.1 = none ∧ base.get? q.1 = none) ∧ ExcIn B l e P (some .none) h

section
variable {prog : Program} {w : World} {A₀ A' : Around} {E : Value → Shared → Prop} {s' : Shared} {base g g₀ G : Heap} {outer : List Env} {L a e : Addr} {m : Str → Option Value} {name : Str} {scope : Scope} {cd cls c : Value}
  {n : Str} {b₀ : Stmt} {suite : List Stmt} {nm : Option Str} {body : List Stmt} {x : Str} {pos np : Pos} {rest hs : List ExceptHandler} {Q : Flow → Shared → Prop} {news : List (Addr × Obj)} {KF : Frag} {P : Obj → Prop}
  {p : Program} {loose : List Str} {mean : ExcName → Option Value} {mg mb : Str → Option Value}

theorem land_start (hP : Still P) (K : Below A₀ base outer g) (R : RaisedP base G (envOf name scope L a cd :: outer) e P news s'.heap) (hsm : G.UpToSlots s'.heap)
    (k : ∀ h', RaisedL base G (envOf name scope L a cd :: outer) e P news h' → G.UpToSlots h' → wpAny (model prog w) (A₀.deeper (envOf name scope L a cd)) (handleBy (.ref e) (envOf name scope L a cd) hs) Q E { s' with heap := h' }) :
    wpAny (model prog w) (A₀.deeper (envOf name scope L a cd)) (noteFrame (.ref e) (envOf name scope L a cd))
      (fun _ s₂ => wpAny (model prog w) (A₀.deeper (envOf name scope L a cd)) (setFlight (.ref e) none) (fun _ s₃ =>
        wpAny (model prog w) (A₀.deeper (envOf name scope L a cd)) (handleBy (.ref e) (envOf name scope L a cd) hs) Q E s₃) E s₂) E s' := by
  obtain ⟨B, st, hst, hB, hBG, hl, hx⟩ := R
  refine noteP hP (Around.frames_deeper K.stack) rfl hst hx fun h₁ x₁ u₁ => ?_
  exact flightP x₁ fun h₂ x₂ u₂ => k h₂ ⟨B, hB, hBG, hl, x₂⟩ (hsm.trans (u₁.trans u₂))

theorem RaisedL.ground (R : RaisedL base G (envOf name scope L a cd :: outer) e P news s'.heap) (F : Fr g L G m) (K : Below A₀ base outer g) (hsm : G.UpToSlots s'.heap) :
    ∃ g', KtsTurn (outer.filterMap (·.frame)) g g' ∧ Fr g' L s'.heap m ∧ Below A₀ base outer g' := by
  obtain ⟨B, hB, hBG, hl, hx⟩ := R
  exact kts_ground K F hBG hx.1 hsm
theorem RaisedL.looks {M : Model} (R : RaisedL base G (envOf name scope L a cd :: outer) e P news s'.heap) (hcls : ∀ o, P o → o.cls = cls) : Looks M s'.heap (typeOf (.ref e)) cls := by
  obtain ⟨B, hB, hBG, hl, hb, hen, hf, oe, vs, he, hp, hd, ht⟩ := R
  have : Looks M s'.heap (typeOf (.ref e)) oe.cls := (Looks.ld he).andThen .now
  rwa [hcls oe hp] at this

/-- a clause that does not take it -/
theorem clause_no (R : RaisedL base G (envOf name scope L a cd :: outer) e P news s'.heap) (F : Fr g L G m) (K : Below A₀ base outer g) (hsm : G.UpToSlots s'.heap) (XB : KF.In base) (TB : Top p loose mean mg mb base)
    (hcls : ∀ o, P o → o.cls = cls)
    (ev : ∀ g₅, Fr g₅ L s'.heap m → KF.In g₅ → TopRead p loose mg mb g₅ → ∀ (Q' : Value → Shared → Prop) (E' : Value → Shared → Prop), Q' c s' → wpAny (model prog w) ((A₀.deeper (envOf name scope L a cd)).mark (some (.ref e))) (eval (.Name x np) (envOf name scope L a cd)) Q' E' s')
    (hx : exmOne KF cls c = some false)
    (h : wpAny (model prog w) (A₀.deeper (envOf name scope L a cd)) (handleBy (.ref e) (envOf name scope L a cd) rest) Q E s') :
    wpAny (model prog w) (A₀.deeper (envOf name scope L a cd)) (handleBy (.ref e) (envOf name scope L a cd) (.ExceptHandler (some (.Name x np)) nm body pos :: rest)) Q E s' := by
  obtain ⟨g₅, T₅, F₅, K₅⟩ := R.ground F K hsm
  have X₅ : KF.In g₅ := XB.keeps K₅.stays
  refine wpAny_handleBy_cons (codeAny_handlers_test (ev g₅ F₅ X₅ (topRead_of (TB.keeps K₅.stays)) _ _ ?_)) (by intro q; cases q)
  exact (exm_one (X₅.keeps F₅.keep) (R.looks hcls) hx).here h

theorem RaisedL.ledger (R : RaisedL base G (envOf name scope L a cd :: outer) e P news s'.heap) (F : Fr g L G m) (K : Below A₀ base outer g) (hsm : G.UpToSlots s'.heap) (T0 : KtsTurn (outer.filterMap (·.frame)) g₀ g) :
    ∃ g' oe, P oe ∧ KtsTurn (outer.filterMap (·.frame)) g₀ g' ∧ KtsTurn (outer.filterMap (·.frame)) g g' ∧ Fr g' L s'.heap m ∧ Below A₀ base outer g' ∧ News g' L s'.heap ((e, oe) :: news) ∧ ∀ q ∈ news, q.1 ≠ e := by
  obtain ⟨g', T', F', K'⟩ := R.ground F K hsm
  obtain ⟨B, hB, hBG, hl, hb, hen, hf, oe, vs, he, hp, hd, ht⟩ := R
  have hL : B.get? L = none := by
    obtain ⟨_, ⟨L', _, hf', hn', _⟩, _⟩ := hf
    obtain rfl : L = L' := Option.some.inj hf'
    exact hn'
  have ne' : g'.get? e = none := T'.none_ _ (kts_fresh F hBG hen fun o ho hm => by
    obtain ⟨_, o', ho', nd⟩ := K.frames.mem hm
    rw [ho] at ho'
    cases ho'
    obtain ⟨sl, q⟩ := hsm _ _ (F.keep _ _ ho) nd
    rw [he] at q
    cases q
    exact nd _ hd)
  refine ⟨g', oe, hp, T0.trans T', T', F', K', fun q hq => ?_, fun q hq z => by have := (hl q hq).1; rw [z, hen] at this; cases this⟩
  rcases List.mem_cons.mp hq with rfl | hq
  · refine ⟨he, fun z => ?_, ne'⟩
    obtain ⟨oL, es, ep, q1, q2, _⟩ := F'.ns
    have z' : e = L := z
    rw [← z', he] at q1
    cases q1
    rw [hd] at q2; cases q2
  · exact ⟨hb _ _ (hl q hq).1, (fun z => by have := (hl q hq).1; rw [z, hL] at this; cases this), T'.none_ _ (kts_none F.keep (hl q hq).2.1)⟩

/-- the clause that takes it, with a name -/
theorem clause_as (R : RaisedL base G (envOf name scope L a cd :: outer) e P news s'.heap) (F : Fr g L G m) (K : Below A₀ base outer g) (hsm : G.UpToSlots s'.heap) (XB : KF.In base) (TB : Top p loose mean mg mb base)
    (D : KtsDicts (outer.filterMap (·.frame)) g) (T0 : KtsTurn (outer.filterMap (·.frame)) g₀ g) (hcls : ∀ o, P o → o.cls = cls)
    (ev : ∀ g₅, Fr g₅ L s'.heap m → KF.In g₅ → TopRead p loose mg mb g₅ → ∀ (Q' : Value → Shared → Prop) (E' : Value → Shared → Prop), Q' c s' → wpAny (model prog w) ((A₀.deeper (envOf name scope L a cd)).mark (some (.ref e))) (eval (.Name x np) (envOf name scope L a cd)) Q' E' s')
    (hx : exmOne KF cls c = some true)
    (k : ∀ h' g' oe tk, P oe → (∀ q ∈ news, q.1 ≠ e) → KtsTurn (outer.filterMap (·.frame)) g₀ g' → Fr g' L h' (fun y => if y = n then some (.ref e) else m y) → News g' L h' ((e, oe) :: news) → Below A₀ base outer g' → KF.In g' → Top p loose mean mg mb g' → KtsDicts (outer.filterMap (·.frame)) g' →
      wpAny (model prog w) ((A₀.deeper (envOf name scope L a cd)).mark (some (.ref e))) (execs (b₀ :: suite) (envOf name scope L a cd))
        (fun f s₄ => wpAny (model prog w) (A₀.deeper (envOf name scope L a cd)) (do bindName (envOf name scope L a cd) n .none; unbindBehindTheSuite (envOf name scope L a cd) n pos) (fun _ s₅ => Q f s₅) E s₄)
        (AsSuiteRaised (model prog w) ((A₀.deeper (envOf name scope L a cd)).mark (some (.ref e))) (envOf name scope L a cd) n pos (notedBy (model prog w) ((A₀.deeper (envOf name scope L a cd)).mark (some (.ref e))) (envOf name scope L a cd) (cameBackBy (model prog w) (A₀.deeper (envOf name scope L a cd)) (envOf name scope L a cd) E)))
        { s' with heap := h', toks := tk })
    (hk : scope.kind = .function) (hlo : (envOf name scope L a cd).kindOf n = some .local) :
    wpAny (model prog w) (A₀.deeper (envOf name scope L a cd)) (handleBy (.ref e) (envOf name scope L a cd) (.ExceptHandler (some (.Name x np)) (some n) (b₀ :: suite) pos :: rest)) Q E s' := by
  obtain ⟨g₅, T₅, F₅, K₅⟩ := R.ground F K hsm
  have X₅ : KF.In g₅ := XB.keeps K₅.stays
  refine wpAny_handleBy_cons (codeAny_handlers_test (ev g₅ F₅ X₅ (topRead_of (TB.keeps K₅.stays)) _ _ ?_)) (by intro q; cases q)
  refine (exm_one (X₅.keeps F₅.keep) (R.looks hcls) hx).here ?_
  refine codeAny_handlers_suite_as ?_
  obtain ⟨B, hB, hBG, hl, hX⟩ := R
  refine flightP hX fun h₆ x₆ u₆ => ?_
  obtain ⟨g₆, oe, hp, T₆, T₆', F₆, K₆, N₆, fr⟩ := RaisedL.ledger (s' := { s' with heap := h₆ }) ⟨B, hB, hBG, hl, x₆⟩ F K (hsm.trans u₆) T0
  refine stN F₆ N₆ (fun h₇ F₇ N₇ => ?_) hk hlo
  exact k h₇ g₆ oe _ hp fr T₆ F₇ N₇ K₆ (XB.keeps K₆.stays) (TB.keeps K₆.stays) (D.turn T₆')

/-- the clause that takes it, without a name -/
theorem clause_plain (R : RaisedL base G (envOf name scope L a cd :: outer) e P news s'.heap) (F : Fr g L G m) (K : Below A₀ base outer g) (hsm : G.UpToSlots s'.heap) (XB : KF.In base) (TB : Top p loose mean mg mb base)
    (D : KtsDicts (outer.filterMap (·.frame)) g) (T0 : KtsTurn (outer.filterMap (·.frame)) g₀ g) (hcls : ∀ o, P o → o.cls = cls)
    (ev : ∀ g₅, Fr g₅ L s'.heap m → KF.In g₅ → TopRead p loose mg mb g₅ → ∀ (Q' : Value → Shared → Prop) (E' : Value → Shared → Prop), Q' c s' → wpAny (model prog w) ((A₀.deeper (envOf name scope L a cd)).mark (some (.ref e))) (eval (.Name x np) (envOf name scope L a cd)) Q' E' s')
    (hx : exmOne KF cls c = some true)
    (k : ∀ h' g' oe, P oe → (∀ q ∈ news, q.1 ≠ e) → KtsTurn (outer.filterMap (·.frame)) g₀ g' → Fr g' L h' m → News g' L h' ((e, oe) :: news) → Below A₀ base outer g' → KF.In g' → Top p loose mean mg mb g' → KtsDicts (outer.filterMap (·.frame)) g' →
      wpAny (model prog w) ((A₀.deeper (envOf name scope L a cd)).mark (some (.ref e))) (execs (b₀ :: suite) (envOf name scope L a cd)) Q E { s' with heap := h' })
    (hE : PassesOwnAt (model prog w) ((A₀.deeper (envOf name scope L a cd)).mark (some (.ref e))) (A₀.deeper (envOf name scope L a cd)) (envOf name scope L a cd) E := by passes_own) :
    wpAny (model prog w) (A₀.deeper (envOf name scope L a cd)) (handleBy (.ref e) (envOf name scope L a cd) (.ExceptHandler (some (.Name x np)) none (b₀ :: suite) pos :: rest)) Q E s' := by
  obtain ⟨g₅, T₅, F₅, K₅⟩ := R.ground F K hsm
  have X₅ : KF.In g₅ := XB.keeps K₅.stays
  refine wpAny_handleBy_cons (codeAny_handlers_test (ev g₅ F₅ X₅ (topRead_of (TB.keeps K₅.stays)) _ _ ?_)) (by intro q; cases q)
  refine (exm_one (X₅.keeps F₅.keep) (R.looks hcls) hx).here ?_
  refine codeAny_handlers_suite ?_
  obtain ⟨B, hB, hBG, hl, hX⟩ := R
  refine flightP hX fun h₆ x₆ u₆ => ?_
  obtain ⟨g₆, oe, hp, T₆, T₆', F₆, K₆, N₆, fr⟩ := RaisedL.ledger (s' := { s' with heap := h₆ }) ⟨B, hB, hBG, hl, x₆⟩ F K (hsm.trans u₆) T0
  exact wpAny_passesOwnAt hE (k h₆ g₆ oe hp fr T₆ F₆ N₆ K₆ (XB.keeps K₆.stays) (TB.keeps K₆.stays) (D.turn T₆'))
end
end Mine
end
section
open PySem PySem.W PyProof.Rows PySem.Calls
set_option Elab.async false
set_option maxRecDepth 100000
set_option maxHeartbeats 8000000
namespace Mine
local macro_rules | `(tactic| k_room) => `(tactic| ((simp only [depth_mark, depth_under_make, depth_under_kw, depth_in1, depth_deeper, recursionLimit] at *); omega))
-- an item of a list of the ledger, at a place that is known
local macro_rules | `(tactic| walk_at "subscriptTail") => `(tactic| (k_here; (with_reducible show wpAny _ _ (subscriptTail _ _ (Value.ref _) (Value.int _ _)) _ _ _); k_dflt (refine' item_at ?k1 ?k2 ?_; (case k1 => exact News.isList (by k_asm) (by k_mem)); (case k2 => with_reducible assumption); k_whole)))
-- an empty one
local macro_rules | `(tactic| walk_at "subscriptTail") => `(tactic| (k_here; (with_reducible show wpAny _ _ (subscriptTail _ _ (Value.ref _) (Value.int _ _)) _ _ _); k_dflt (refine' item_outK ?k0 ?k1 ?k2 ?k3 ?k4 ?_; (case k0 => exact rfl); (case k1 => exact News.isList (by k_asm) (by k_mem)); (case k2 => exact .inr (Int.le_refl _)); (case k3 => decide); (case k4 => decide); k_whole; intro h' tk' e' hx')))
-- the iterator's own row
local macro_rules | `(tactic| walk_at "subscriptTail") => `(tactic| (k_here; (with_reducible show wpAny _ _ (subscriptTail _ _ (Value.ref _) (Value.int _ _)) _ _ _); (with_reducible rename Yields _ _ _ _ _ _ => hY); k_dflt (refine' hY _ _ _ _ _ _ _ _ _ _ _ _ _ _ _ _ _ _ _ _ _ _ _ _ _ _ ?B ?F ?X ?N ?T ?hk ?hd ?hu ?hn ?post; (case B => k_asm); (case F => k_asm); (case X => k_asm); (case N => k_asm); (case T => k_asm); (case hk => exact rfl); (case hd => ((try dsimp only [top1, Around.in1]); omega)); (case hu => ((try dsimp only [top1, Around.in1]); omega)); (case hn => assumption)); (try clear hY); (try dsimp only)))
-- a dict's item by a written key
local macro_rules | `(tactic| walk_at "subscriptTail") => `(tactic| (k_here; (with_reducible show wpAny _ _ (subscriptTail _ _ (Value.ref _) (Value.str _ _)) _ _ _); k_dflt (first
  | (refine' dict_item ?k1 ?k2 ?k3 ?k4 ?_; (case k1 => k_asm); (case k2 => k_mem); (case k3 => assumption); (case k4 => assumption); k_whole)
  | (refine' dict_missing ?k1 ?k2 ?k3 ?k4 ?k5 ?k6 ?_; (case k1 => k_asm); (case k2 => k_mem); (case k3 => assumption); (case k4 => assumption); (case k5 => assumption); (case k6 => exact rfl); k_whole; intro h' e' hx'))))
local macro_rules | `(tactic| walk_at "call ref") => `(tactic| (k_here; (with_reducible show wpAny _ _ (call (Value.ref _) [_, _] _) _ _ _); k_dflt (refine' call_fault ?k1 ?k2 ?k3 ?k4 ?k5 ?k6 ?_; (case k1 => k_asm); (case k2 => k_asm); (case k3 => exact rfl); (case k4 => exact rfl); (case k5 => (simp only [depth_mark, depth_under_make, depth_under_kw, depth_in1, depth_deeper]; (try dsimp only [top1]); omega)); (case k6 => ((try dsimp only [top1, Around.in1, Around.deeper]); omega)); k_whole; intro e' h' tk' hx')))
local macro_rules | `(tactic| walk_at "exec Raise some none") => `(tactic| (k_here; (with_reducible show wpAny _ _ (exec (Stmt.Raise (some (Expr.Call (Expr.Name ("ValueError" : Str) _) _ [] _)) none _) _) _ _ _); with_unfolding_all refine Raise_madeB PySem.F.excCall_ValueError PySem.F.excRaise_ValueError rfl ?_))
local macro_rules | `(tactic| walk_at "exec Raise some none") => `(tactic| (k_here; (with_reducible show wpAny _ _ (exec (Stmt.Raise (some (Expr.Call (Expr.Name ("Fault" : Str) _) _ [] _)) none _) _) _ _ _); with_unfolding_all refine Raise_inst rfl ?_))
local macro_rules | `(tactic| walk_at "And") => `(tactic| ((with_reducible show _ = _ ∧ _); refine ⟨rfl, ?_⟩; (try dsimp only)))
local macro_rules | `(tactic| walk_at "And") => `(tactic| ((with_reducible show _ ≤ sizeLine ∧ _); refine ⟨by decide, ?_⟩; intro h' e' hx'))
local macro_rules | `(tactic| walk_at "Exists") => `(tactic| (k_here; refine ⟨_, rfl, MadeFault.raisable (by assumption) (by assumption) (by assumption), ?_⟩))
local macro_rules | `(tactic| walk_at "leaving ref") => `(tactic| (k_here; k_dflt (first
  | (refine' leave_madeP ?k1 (Heap.MadeExc.of (by assumption)) ?k2 ?k3 ?_ ?k5; (case k2 => assumption); (case k1 => assumption); (case k3 => k_asm); (case k5 => exact rfl); k_whole; intro h' t' R' U'; (try dsimp only at U' ⊢))
  | (refine' leave_indexP ?k1 ?k0 ?k2 ?k3 ?_ ?k5; (case k0 => assumption); (case k2 => assumption); (case k1 => assumption); (case k3 => k_asm); (case k5 => exact rfl); k_whole; intro h' R' U'; (try dsimp only at U' ⊢))
  | (refine' leave_faultP ?k1 ?k0 ?k2 ?k3 ?_ ?k5; (case k0 => assumption); (case k2 => assumption); (case k1 => assumption); (case k3 => k_asm); (case k5 => exact rfl); k_whole; intro h' t' dx' t1' t2' R' U'; (try dsimp only at U' ⊢))
  | (refine' leaveOnP ?k0 ?k1 ?k2 ?k3 ?k4 ?_; (case k3 => assumption); (case k0 => exact XIs.still (by assumption)); (case k1 => assumption); (case k2 => assumption); (case k4 => assumption); k_whole; intro h' R' U'; (try dsimp only at U' ⊢)))))

section
variable {w : World} {nw : List (Addr × Obj)} {rr it d a : Addr} {tk n : Nat} {i : Int} {D : Nat} {es : List DictEntry} {vs : Array Value}
theorem step_int {x : Int} {tx : Tok} (hY : Yields w nw (.ref rr) i D (.val (.int x tx))) (h1 : (it, instObj 77 d) ∈ nw) (h2 : (d, dictOf [⟨PyData.keyHash w.params "results", .str "results" tk, .ref rr⟩] 1) ∈ nw)  : Yields w nw (.ref it) i (D + 1) (.exc .value) := by
  unfold Yields
  w_top off
  k_fill
  intro value sn sp ti dp un gd cn cs a' ccd outer A₀ base h₀ L m s Q E p loose mean mg mb nw' B F X N T hk hd hu hn post
  replace h1 := hn _ h1
  replace h2 := hn _ h2
  k_dflt (refine' sub_K ?k1 ?k2 ?k3 ?k4 ?k5 ?k6 ?_; (case k1 => k_asm); (case k2 => k_asm); (case k3 => k_inst); (case k4 => k_is); (case k5 => k_is); (case k6 => k_is); k_whole)
  refine wpAny_call ?_
  k_dflt cell_enter
  k_steps
  all_goals (first
    | exact post _ _ (by k_asm) (by k_asm)
    | exact post _ _ _ _ _ _ (XIs.value _ _) (by k_asm) (by k_asm) (by k_asm)
    | exact post _ _ _ _ _ _ (XIs.key _ _ _) (by k_asm) (by k_asm) (by k_asm)
    | exact post _ _ _ _ _ _ (XIs.fault _ _ _ _ _ _) (by k_asm) (by k_asm) (by k_asm)
    | exact post _ _ _ _ _ _ XIs.index (by k_asm) (by k_asm) (by k_asm)
    | exact post _ _ _ _ _ _ (by assumption) (by k_asm) (by k_asm) (by k_asm))
theorem step_str {x : Str} {tx : Tok} (hY : Yields w nw (.ref rr) i D (.val (.str x tx))) (h1 : (it, instObj 77 d) ∈ nw) (h2 : (d, dictOf [⟨PyData.keyHash w.params "results", .str "results" tk, .ref rr⟩] 1) ∈ nw)  : Yields w nw (.ref it) i (D + 1) (.exc .value) := by
  unfold Yields
  w_top off
  k_fill
  intro value sn sp ti dp un gd cn cs a' ccd outer A₀ base h₀ L m s Q E p loose mean mg mb nw' B F X N T hk hd hu hn post
  replace h1 := hn _ h1
  replace h2 := hn _ h2
  k_dflt (refine' sub_K ?k1 ?k2 ?k3 ?k4 ?k5 ?k6 ?_; (case k1 => k_asm); (case k2 => k_asm); (case k3 => k_inst); (case k4 => k_is); (case k5 => k_is); (case k6 => k_is); k_whole)
  refine wpAny_call ?_
  k_dflt cell_enter
  k_steps
  all_goals (first
    | exact post _ _ (by k_asm) (by k_asm)
    | exact post _ _ _ _ _ _ (XIs.value _ _) (by k_asm) (by k_asm) (by k_asm)
    | exact post _ _ _ _ _ _ (XIs.key _ _ _) (by k_asm) (by k_asm) (by k_asm)
    | exact post _ _ _ _ _ _ (XIs.fault _ _ _ _ _ _) (by k_asm) (by k_asm) (by k_asm)
    | exact post _ _ _ _ _ _ XIs.index (by k_asm) (by k_asm) (by k_asm)
    | exact post _ _ _ _ _ _ (by assumption) (by k_asm) (by k_asm) (by k_asm))
theorem step_none  (hY : Yields w nw (.ref rr) i D (.val .none)) (h1 : (it, instObj 77 d) ∈ nw) (h2 : (d, dictOf [⟨PyData.keyHash w.params "results", .str "results" tk, .ref rr⟩] 1) ∈ nw)  : Yields w nw (.ref it) i (D + 1) (.exc .value) := by
  unfold Yields
  w_top off
  k_fill
  intro value sn sp ti dp un gd cn cs a' ccd outer A₀ base h₀ L m s Q E p loose mean mg mb nw' B F X N T hk hd hu hn post
  replace h1 := hn _ h1
  replace h2 := hn _ h2
  k_dflt (refine' sub_K ?k1 ?k2 ?k3 ?k4 ?k5 ?k6 ?_; (case k1 => k_asm); (case k2 => k_asm); (case k3 => k_inst); (case k4 => k_is); (case k5 => k_is); (case k6 => k_is); k_whole)
  refine wpAny_call ?_
  k_dflt cell_enter
  k_steps
  all_goals (first
    | exact post _ _ (by k_asm) (by k_asm)
    | exact post _ _ _ _ _ _ (XIs.value _ _) (by k_asm) (by k_asm) (by k_asm)
    | exact post _ _ _ _ _ _ (XIs.key _ _ _) (by k_asm) (by k_asm) (by k_asm)
    | exact post _ _ _ _ _ _ (XIs.fault _ _ _ _ _ _) (by k_asm) (by k_asm) (by k_asm)
    | exact post _ _ _ _ _ _ XIs.index (by k_asm) (by k_asm) (by k_asm)
    | exact post _ _ _ _ _ _ (by assumption) (by k_asm) (by k_asm) (by k_asm))
theorem step_tuple  (hY : Yields w nw (.ref rr) i D (.val (.ref a))) (h1 : (it, instObj 77 d) ∈ nw) (h2 : (d, dictOf [⟨PyData.keyHash w.params "results", .str "results" tk, .ref rr⟩] 1) ∈ nw) (h3 : (a, tupOf vs) ∈ nw) : Yields w nw (.ref it) i (D + 1) (.exc .value) := by
  unfold Yields
  w_top off
  k_fill
  intro value sn sp ti dp un gd cn cs a' ccd outer A₀ base h₀ L m s Q E p loose mean mg mb nw' B F X N T hk hd hu hn post
  replace h1 := hn _ h1
  replace h2 := hn _ h2
  replace h3 := hn _ h3
  k_dflt (refine' sub_K ?k1 ?k2 ?k3 ?k4 ?k5 ?k6 ?_; (case k1 => k_asm); (case k2 => k_asm); (case k3 => k_inst); (case k4 => k_is); (case k5 => k_is); (case k6 => k_is); k_whole)
  refine wpAny_call ?_
  k_dflt cell_enter
  k_steps
  all_goals (first
    | exact post _ _ (by k_asm) (by k_asm)
    | exact post _ _ _ _ _ _ (XIs.value _ _) (by k_asm) (by k_asm) (by k_asm)
    | exact post _ _ _ _ _ _ (XIs.key _ _ _) (by k_asm) (by k_asm) (by k_asm)
    | exact post _ _ _ _ _ _ (XIs.fault _ _ _ _ _ _) (by k_asm) (by k_asm) (by k_asm)
    | exact post _ _ _ _ _ _ XIs.index (by k_asm) (by k_asm) (by k_asm)
    | exact post _ _ _ _ _ _ (by assumption) (by k_asm) (by k_asm) (by k_asm))
theorem step_list {x : Value} (hY : Yields w nw (.ref rr) i D (.val (.ref a))) (h1 : (it, instObj 77 d) ∈ nw) (h2 : (d, dictOf [⟨PyData.keyHash w.params "results", .str "results" tk, .ref rr⟩] 1) ∈ nw) (h3 : (a, listOf vs n) ∈ nw) (h4 : At vs 0 x) : Yields w nw (.ref it) i (D + 1) (.val x) := by
  unfold Yields
  w_top off
  k_fill
  intro value sn sp ti dp un gd cn cs a' ccd outer A₀ base h₀ L m s Q E p loose mean mg mb nw' B F X N T hk hd hu hn post
  replace h1 := hn _ h1
  replace h2 := hn _ h2
  replace h3 := hn _ h3
  k_dflt (refine' sub_K ?k1 ?k2 ?k3 ?k4 ?k5 ?k6 ?_; (case k1 => k_asm); (case k2 => k_asm); (case k3 => k_inst); (case k4 => k_is); (case k5 => k_is); (case k6 => k_is); k_whole)
  refine wpAny_call ?_
  k_dflt cell_enter
  k_steps
  all_goals (first
    | exact post _ _ (by k_asm) (by k_asm)
    | exact post _ _ _ _ _ _ (XIs.value _ _) (by k_asm) (by k_asm) (by k_asm)
    | exact post _ _ _ _ _ _ (XIs.key _ _ _) (by k_asm) (by k_asm) (by k_asm)
    | exact post _ _ _ _ _ _ (XIs.fault _ _ _ _ _ _) (by k_asm) (by k_asm) (by k_asm)
    | exact post _ _ _ _ _ _ XIs.index (by k_asm) (by k_asm) (by k_asm)
    | exact post _ _ _ _ _ _ (by assumption) (by k_asm) (by k_asm) (by k_asm))
theorem step_empty  (hY : Yields w nw (.ref rr) i D (.val (.ref a))) (h1 : (it, instObj 77 d) ∈ nw) (h2 : (d, dictOf [⟨PyData.keyHash w.params "results", .str "results" tk, .ref rr⟩] 1) ∈ nw) (h3 : (a, listOf #[] n) ∈ nw) : Yields w nw (.ref it) i (D + 1) (.exc .index) := by
  unfold Yields
  w_top off
  k_fill
  intro value sn sp ti dp un gd cn cs a' ccd outer A₀ base h₀ L m s Q E p loose mean mg mb nw' B F X N T hk hd hu hn post
  replace h1 := hn _ h1
  replace h2 := hn _ h2
  replace h3 := hn _ h3
  k_dflt (refine' sub_K ?k1 ?k2 ?k3 ?k4 ?k5 ?k6 ?_; (case k1 => k_asm); (case k2 => k_asm); (case k3 => k_inst); (case k4 => k_is); (case k5 => k_is); (case k6 => k_is); k_whole)
  refine wpAny_call ?_
  k_dflt cell_enter
  k_steps
  all_goals (first
    | exact post _ _ (by k_asm) (by k_asm)
    | exact post _ _ _ _ _ _ (XIs.value _ _) (by k_asm) (by k_asm) (by k_asm)
    | exact post _ _ _ _ _ _ (XIs.key _ _ _) (by k_asm) (by k_asm) (by k_asm)
    | exact post _ _ _ _ _ _ (XIs.fault _ _ _ _ _ _) (by k_asm) (by k_asm) (by k_asm)
    | exact post _ _ _ _ _ _ XIs.index (by k_asm) (by k_asm) (by k_asm)
    | exact post _ _ _ _ _ _ (by assumption) (by k_asm) (by k_asm) (by k_asm))
theorem step_key1  (hY : Yields w nw (.ref rr) i D (.val (.ref a))) (h1 : (it, instObj 77 d) ∈ nw) (h2 : (d, dictOf [⟨PyData.keyHash w.params "results", .str "results" tk, .ref rr⟩] 1) ∈ nw) (h3 : (a, dictOf es n) ∈ nw) (h4 : KeysLit w.params es) (h5 : getL "faultCode" es = some none) (h6 : (a == sysModules) = false) : Yields w nw (.ref it) i (D + 1) (.exc (.key "faultCode")) := by
  unfold Yields
  w_top off
  k_fill
  intro value sn sp ti dp un gd cn cs a' ccd outer A₀ base h₀ L m s Q E p loose mean mg mb nw' B F X N T hk hd hu hn post
  replace h1 := hn _ h1
  replace h2 := hn _ h2
  replace h3 := hn _ h3
  k_dflt (refine' sub_K ?k1 ?k2 ?k3 ?k4 ?k5 ?k6 ?_; (case k1 => k_asm); (case k2 => k_asm); (case k3 => k_inst); (case k4 => k_is); (case k5 => k_is); (case k6 => k_is); k_whole)
  refine wpAny_call ?_
  k_dflt cell_enter
  k_steps
  all_goals (first
    | exact post _ _ (by k_asm) (by k_asm)
    | exact post _ _ _ _ _ _ (XIs.value _ _) (by k_asm) (by k_asm) (by k_asm)
    | exact post _ _ _ _ _ _ (XIs.key _ _ _) (by k_asm) (by k_asm) (by k_asm)
    | exact post _ _ _ _ _ _ (XIs.fault _ _ _ _ _ _) (by k_asm) (by k_asm) (by k_asm)
    | exact post _ _ _ _ _ _ XIs.index (by k_asm) (by k_asm) (by k_asm)
    | exact post _ _ _ _ _ _ (by assumption) (by k_asm) (by k_asm) (by k_asm))
theorem step_key2 {c : Value} (hY : Yields w nw (.ref rr) i D (.val (.ref a))) (h1 : (it, instObj 77 d) ∈ nw) (h2 : (d, dictOf [⟨PyData.keyHash w.params "results", .str "results" tk, .ref rr⟩] 1) ∈ nw) (h3 : (a, dictOf es n) ∈ nw) (h4 : KeysLit w.params es) (h5 : getL "faultCode" es = some (some c)) (h5' : getL "faultString" es = some none) (h6 : (a == sysModules) = false) : Yields w nw (.ref it) i (D + 1) (.exc (.key "faultString")) := by
  unfold Yields
  w_top off
  k_fill
  intro value sn sp ti dp un gd cn cs a' ccd outer A₀ base h₀ L m s Q E p loose mean mg mb nw' B F X N T hk hd hu hn post
  replace h1 := hn _ h1
  replace h2 := hn _ h2
  replace h3 := hn _ h3
  k_dflt (refine' sub_K ?k1 ?k2 ?k3 ?k4 ?k5 ?k6 ?_; (case k1 => k_asm); (case k2 => k_asm); (case k3 => k_inst); (case k4 => k_is); (case k5 => k_is); (case k6 => k_is); k_whole)
  refine wpAny_call ?_
  k_dflt cell_enter
  k_steps
  all_goals (first
    | exact post _ _ (by k_asm) (by k_asm)
    | exact post _ _ _ _ _ _ (XIs.value _ _) (by k_asm) (by k_asm) (by k_asm)
    | exact post _ _ _ _ _ _ (XIs.key _ _ _) (by k_asm) (by k_asm) (by k_asm)
    | exact post _ _ _ _ _ _ (XIs.fault _ _ _ _ _ _) (by k_asm) (by k_asm) (by k_asm)
    | exact post _ _ _ _ _ _ XIs.index (by k_asm) (by k_asm) (by k_asm)
    | exact post _ _ _ _ _ _ (by assumption) (by k_asm) (by k_asm) (by k_asm))
theorem step_fault {c v : Value} (hY : Yields w nw (.ref rr) i D (.val (.ref a))) (h1 : (it, instObj 77 d) ∈ nw) (h2 : (d, dictOf [⟨PyData.keyHash w.params "results", .str "results" tk, .ref rr⟩] 1) ∈ nw) (h3 : (a, dictOf es n) ∈ nw) (h4 : KeysLit w.params es) (h5 : getL "faultCode" es = some (some c)) (h5' : getL "faultString" es = some (some v)) : Yields w nw (.ref it) i (D + 1) (.exc (.fault c v)) := by
  unfold Yields
  w_top off
  k_fill
  intro value sn sp ti dp un gd cn cs a' ccd outer A₀ base h₀ L m s Q E p loose mean mg mb nw' B F X N T hk hd hu hn post
  replace h1 := hn _ h1
  replace h2 := hn _ h2
  replace h3 := hn _ h3
  k_dflt (refine' sub_K ?k1 ?k2 ?k3 ?k4 ?k5 ?k6 ?_; (case k1 => k_asm); (case k2 => k_asm); (case k3 => k_inst); (case k4 => k_is); (case k5 => k_is); (case k6 => k_is); k_whole)
  refine wpAny_call ?_
  k_dflt cell_enter
  k_steps
  all_goals (first
    | exact post _ _ (by k_asm) (by k_asm)
    | exact post _ _ _ _ _ _ (XIs.value _ _) (by k_asm) (by k_asm) (by k_asm)
    | exact post _ _ _ _ _ _ (XIs.key _ _ _) (by k_asm) (by k_asm) (by k_asm)
    | exact post _ _ _ _ _ _ (XIs.fault _ _ _ _ _ _) (by k_asm) (by k_asm) (by k_asm)
    | exact post _ _ _ _ _ _ XIs.index (by k_asm) (by k_asm) (by k_asm)
    | exact post _ _ _ _ _ _ (by assumption) (by k_asm) (by k_asm) (by k_asm))
theorem step_exc {k : XK} (hY : Yields w nw (.ref rr) i D (.exc k)) (h1 : (it, instObj 77 d) ∈ nw) (h2 : (d, dictOf [⟨PyData.keyHash w.params "results", .str "results" tk, .ref rr⟩] 1) ∈ nw)  : Yields w nw (.ref it) i (D + 1) (.exc k) := by
  unfold Yields
  w_top off
  k_fill
  intro value sn sp ti dp un gd cn cs a' ccd outer A₀ base h₀ L m s Q E p loose mean mg mb nw' B F X N T hk hd hu hn post
  replace h1 := hn _ h1
  replace h2 := hn _ h2
  k_dflt (refine' sub_K ?k1 ?k2 ?k3 ?k4 ?k5 ?k6 ?_; (case k1 => k_asm); (case k2 => k_asm); (case k3 => k_inst); (case k4 => k_is); (case k5 => k_is); (case k6 => k_is); k_whole)
  refine wpAny_call ?_
  k_dflt cell_enter
  k_steps
  all_goals (first
    | exact post _ _ (by k_asm) (by k_asm)
    | exact post _ _ _ _ _ _ (XIs.value _ _) (by k_asm) (by k_asm) (by k_asm)
    | exact post _ _ _ _ _ _ (XIs.key _ _ _) (by k_asm) (by k_asm) (by k_asm)
    | exact post _ _ _ _ _ _ (XIs.fault _ _ _ _ _ _) (by k_asm) (by k_asm) (by k_asm)
    | exact post _ _ _ _ _ _ XIs.index (by k_asm) (by k_asm) (by k_asm)
    | exact post _ _ _ _ _ _ (by assumption) (by k_asm) (by k_asm) (by k_asm))
end
end Mine
end
section
open PySem PySem.W PyProof.Rows PySem.Calls
set_option Elab.async false
set_option maxRecDepth 100000
set_option maxHeartbeats 8000000
theorem Mine.attr_KeyError : ExcAttrFacts "KeyError" where
  ga := .of (owner := "BaseException") (n := "__getattribute__") (by rw [typeLookup_type, builtinLookup_eq_fast]; kernel_rfl) (by decide +kernel) (by decide +kernel) (by decide +kernel)
    (by first | exact .inl (by decide +kernel) | exact .inr (by decide +kernel)) (by rw [isSubtype_type]; kernel_rfl)
  lkArgs := by rw [typeLookup_type, builtinLookup_eq_fast]; kernel_rfl
  sub := by rw [isSubtype_type]; kernel_rfl
namespace Mine
def XK.cls : XK → Value
  | .index => .type "IndexError"
  | .value => .type "ValueError"
  | .key _ => .type "KeyError"
  | .fault _ _ => .ref 51
theorem XIs.cls {w : World} {k : XK} {P : Obj → Prop} {ex : List (Addr × Obj)} (x : XIs w k P ex) : ∀ o, P o → o.cls = k.cls := by
  cases x with
  | index => exact fun o h => h
  | value t tk => rintro o ⟨tb, rfl⟩; rfl
  | key k t tk => rintro o ⟨tb, rfl⟩; rfl
  | fault c s t dx t1 t2 => rintro o ⟨tb, rfl⟩; rfl
/-- what `_law_ask` gives: a list of a word and a thing; with it come the objects that the thing is made of -/
inductive AskRes (w : World) (old : List (Addr × Obj)) : Out → Addr → List (Addr × Obj) → Prop
  | val (v : Value) (l : Addr) (t : Nat) : AskRes w old (.val v) l [(l, listOf #[.str "given" t, v] 0)]
  | index (l : Addr) (t : Nat) (ex : List (Addr × Obj)) : AskRes w old (.exc .index) l ((l, listOf #[.str "index" t, .none] 0) :: ex)
  | value (l e t : Addr) (t1 t2 : Nat) (tb : Value) : AskRes w old (.exc .value) l [(l, listOf #[.str "value" t1, .ref t] 0), (e, excObj (.type "ValueError") none t tb), (t, tupOf #[.str unexpected t2])]
  | key (k : Str) (l e t : Addr) (t1 t2 : Nat) (tb : Value) : AskRes w old (.exc (.key k)) l [(l, listOf #[.str "key" t1, .ref t] 0), (e, excObj (.type "KeyError") none t tb), (t, tupOf #[.str k t2])]
  | fault (c s : Value) (l e t dx : Addr) (t1 t2 t3 : Nat) (tb : Value) (fr : ∀ q ∈ old, q.1 ≠ e) :
      AskRes w old (.exc (.fault c s)) l [(l, listOf #[.str "fault" t1, .ref e] 0), (e, excObj (.ref 51) (some dx) t tb), (t, tupOf #[]), (dx, faultDict w t2 t3 c s)]
def Asks (w : World) (nw : List (Addr × Obj)) (it : Value) (i : Int) (O : Out) : Prop :=
  ∀ (ti : Tok) (dp un : Nat) (gd : Option (List Code)) (cn : Str) (cs : Scope) (a : Addr) (ccd : Value) (A₀ : Around) (base : Heap) (L : Addr) (m : Str → Option Value) (s : Shared) (Q E : Value → Shared → Prop)
    (p : Program) (loose : List Str) (mean : ExcName → Option Value) (mg mb : Str → Option Value) (nw' : List (Addr × Obj)),
    Below A₀ base [] base → Fr base L s.heap m → (hdx.heap_39 w.params).In base → News base L s.heap nw' → Top p loose mean mg mb base → cs.kind = .function → dp ≤ 310 → un ≤ 30 → (∀ q ∈ nw, q ∈ nw') →
    (∀ l ex h' tk', AskRes w nw' O l ex → Fr base L h' m → News base L h' (ex ++ nw') → Q (.ref l) { s with heap := h', toks := tk' }) →
    wpAny (model PySem.Challenge.rw_kn0109_06.row.prog w) (top1 dp un gd (envOf cn cs L a ccd) []) (call (.ref 109) [it, .int i ti]) Q E s
local macro_rules | `(tactic| k_room) => `(tactic| ((try simp only [depth_mark, depth_under_make, depth_under_kw, depth_in1, depth_deeper] at *); (try dsimp only [top1] at *); (simp only [recursionLimit] at *); omega))
local macro_rules | `(tactic| walk_at "subscriptTail") => `(tactic| (k_here; (with_reducible show wpAny _ _ (subscriptTail _ _ (Value.ref _) (Value.int _ _)) _ _ _); (with_reducible rename Yields _ _ _ _ _ _ => hY); k_dflt (refine' hY _ _ _ _ _ _ _ _ _ _ _ _ _ _ _ _ _ _ _ _ _ _ _ _ _ _ ?B ?F ?X ?N ?T ?hk ?hd ?hu ?hn ?post; (case B => k_asm); (case F => k_asm); (case X => k_asm); (case N => k_asm); (case T => k_asm); (case hk => exact rfl); (case hd => ((try dsimp only [top1, Around.in1]); omega)); (case hu => ((try dsimp only [top1, Around.in1]); omega)); (case hn => assumption)); (try clear hY); (try dsimp only)))
-- e.args of an exception that was caught: its class, its record and its tuple lie on the ledger
theorem exc_args {prog : Program} {w : World} {A : Around} {E : Value → Shared → Prop} {h₀ h : Heap} {L : Addr} {g d tk os} {news : List (Addr × Obj)} {e t : Addr} {X : String} {dx : Option Addr} {tb : Value} {vs : Array Value} {expr : Bool} {Q : Value → Shared → Prop}
    (FX : ExcAttrFacts X) (N : News h₀ L h news) (h1 : (e, excObj (.type X) dx t tb) ∈ news) (h2 : (t, tupOf vs) ∈ news) (hq : Q (.ref t) ⟨h, g, d, tk + 1, os⟩) :
    wpAny (model prog w) A (getAttr (.ref e) "args" expr) Q E ⟨h, g, d, tk, os⟩ := by
  obtain ⟨l⟩ := vs
  exact args_got_builtin (vs := l) FX N ⟨_, _, _, _, h1, h2, rfl, rfl, rfl, rfl, rfl⟩ hq
local macro_rules | `(tactic| walk_at "getAttr ref") => `(tactic| (k_here; (with_reducible show wpAny _ _ (getAttr (Value.ref _) ("args" : Str) _) _ _ _); k_dflt (first
  | (refine' exc_args PySem.F.attr_ValueError ?N ?h1 ?h2 ?_; (case N => assumption); (case h1 => k_mem); (case h2 => k_mem); k_whole)
  | (refine' exc_args attr_KeyError ?N ?h1 ?h2 ?_; (case N => assumption); (case h1 => k_mem); (case h2 => k_mem); k_whole))))
theorem ask_val {w : World} {nw : List (Addr × Obj)} {it : Addr} {i : Int} {D : Nat} {v : Value} (hD : D ≤ 20) (hY : Yields w nw (.ref it) i D (.val v)) : Asks w nw (.ref it) i (.val v) := by
  unfold Asks
  w_top off
  k_fill
  intro ti dp un gd cn cs a ccd A₀ base L m s Q E p loose mean mg mb nw' B F X N T hk hd hu hn post
  refine wpAny_call ?_
  k_dflt (refine' code_defS0 ?k1 ?k2 ?k3 ?k4 ?k5 ?kA ?k6 ?k7 ?k8 ?k9 ?kB ?_ ?cK ?c2 ?c3 ?c4 ?c5; (case kA => exact rfl); (case k2 => k_asm); (case k1 => k_asm); (case k3 => k_asm); (case k4 => k_asm); (case k5 => k_asm); (case k6 => k_is); (case k7 => k_is); (case k8 => k_room); (case k9 => exact BindsTo.of_eq rfl); (case kB => exact locs rfl); (case cK => exact hk); (case c2 => exact rfl); (case c3 => exact rfl); (case c4 => exact rfl); (case c5 => decide); k_whole; intro g' L' h' FG' F' N' B' X' T' D'; (try dsimp only); (try k_fold))
  k_steps
  all_goals exact post _ _ _ _ (.val _ _ _) (by k_asm) (by k_asm)
theorem ask_index {w : World} {nw : List (Addr × Obj)} {it : Addr} {i : Int} {D : Nat}  (hD : D ≤ 20) (hY : Yields w nw (.ref it) i D (.exc .index)) : Asks w nw (.ref it) i (.exc .index) := by
  unfold Asks
  w_top off
  k_fill
  intro ti dp un gd cn cs a ccd A₀ base L m s Q E p loose mean mg mb nw' B F X N T hk hd hu hn post
  refine wpAny_call ?_
  k_dflt (refine' code_defS0 ?k1 ?k2 ?k3 ?k4 ?k5 ?kA ?k6 ?k7 ?k8 ?k9 ?kB ?_ ?cK ?c2 ?c3 ?c4 ?c5; (case kA => exact rfl); (case k2 => k_asm); (case k1 => k_asm); (case k3 => k_asm); (case k4 => k_asm); (case k5 => k_asm); (case k6 => k_is); (case k7 => k_is); (case k8 => k_room); (case k9 => exact BindsTo.of_eq rfl); (case kB => exact locs rfl); (case cK => exact hk); (case c2 => exact rfl); (case c3 => exact rfl); (case c4 => exact rfl); (case c5 => decide); k_whole; intro g' L' h' FG' F' N' B' X' T' D'; (try dsimp only); (try k_fold))
  k_steps
  rename XIs _ _ _ _ => hx
  refine' land_start (XIs.still hx) (by assumption) (by assumption) (by assumption) ?_
  intro h₁ R₁ U₁
  k_dflt (refine' clause_no R₁ ?kF ?kK U₁ X T (XIs.cls hx) (fun g₅ F₅ X₅ P₅ Q5 E5 q => by k_dflt (refine' name_K F₅ X₅ P₅ ?e q; (case e => k_is))) ?kx ?_; (case kF => assumption); (case kK => assumption); (case kx => kernel_rfl))
  k_dflt (refine' clause_no R₁ ?kF ?kK U₁ X T (XIs.cls hx) (fun g₅ F₅ X₅ P₅ Q5 E5 q => by k_dflt (refine' name_B F₅ X₅ P₅ ?e PyProof.Rows.Boot.«KeyError» (by decide) q; (case e => k_is))) ?kx ?_; (case kF => assumption); (case kK => assumption); (case kx => kernel_rfl))
  cases hx
  k_dflt (refine' clause_plain (cls := .type "IndexError") R₁ ?kF ?kK U₁ X T ?kD KtsTurn.refl ?kc (fun g₅ F₅ X₅ P₅ Q5 E5 q => by k_dflt (refine' name_B F₅ X₅ P₅ ?e PyProof.Rows.Boot.«IndexError» (by decide) q; (case e => k_is))) ?kx ?_; (case kF => assumption); (case kK => assumption); (case kD => assumption); (case kc => exact fun o h => h); (case kx => kernel_rfl))
  intro h₂ g₂ oe hp fr T₂ F₂ N₂ B₂ X₂ T₂' D₂
  k_steps
  all_goals exact post _ _ _ _ (.index _ _ [(_, _)]) (by k_asm) (by k_asm)
theorem ask_value {w : World} {nw : List (Addr × Obj)} {it : Addr} {i : Int} {D : Nat}  (hD : D ≤ 20) (hY : Yields w nw (.ref it) i D (.exc .value)) : Asks w nw (.ref it) i (.exc .value) := by
  unfold Asks
  w_top off
  k_fill
  intro ti dp un gd cn cs a ccd A₀ base L m s Q E p loose mean mg mb nw' B F X N T hk hd hu hn post
  refine wpAny_call ?_
  k_dflt (refine' code_defS0 ?k1 ?k2 ?k3 ?k4 ?k5 ?kA ?k6 ?k7 ?k8 ?k9 ?kB ?_ ?cK ?c2 ?c3 ?c4 ?c5; (case kA => exact rfl); (case k2 => k_asm); (case k1 => k_asm); (case k3 => k_asm); (case k4 => k_asm); (case k5 => k_asm); (case k6 => k_is); (case k7 => k_is); (case k8 => k_room); (case k9 => exact BindsTo.of_eq rfl); (case kB => exact locs rfl); (case cK => exact hk); (case c2 => exact rfl); (case c3 => exact rfl); (case c4 => exact rfl); (case c5 => decide); k_whole; intro g' L' h' FG' F' N' B' X' T' D'; (try dsimp only); (try k_fold))
  k_steps
  rename XIs _ _ _ _ => hx
  refine' land_start (XIs.still hx) (by assumption) (by assumption) (by assumption) ?_
  intro h₁ R₁ U₁
  k_dflt (refine' clause_no R₁ ?kF ?kK U₁ X T (XIs.cls hx) (fun g₅ F₅ X₅ P₅ Q5 E5 q => by k_dflt (refine' name_K F₅ X₅ P₅ ?e q; (case e => k_is))) ?kx ?_; (case kF => assumption); (case kK => assumption); (case kx => kernel_rfl))
  k_dflt (refine' clause_no R₁ ?kF ?kK U₁ X T (XIs.cls hx) (fun g₅ F₅ X₅ P₅ Q5 E5 q => by k_dflt (refine' name_B F₅ X₅ P₅ ?e PyProof.Rows.Boot.«KeyError» (by decide) q; (case e => k_is))) ?kx ?_; (case kF => assumption); (case kK => assumption); (case kx => kernel_rfl))
  k_dflt (refine' clause_no R₁ ?kF ?kK U₁ X T (XIs.cls hx) (fun g₅ F₅ X₅ P₅ Q5 E5 q => by k_dflt (refine' name_B F₅ X₅ P₅ ?e PyProof.Rows.Boot.«IndexError» (by decide) q; (case e => k_is))) ?kx ?_; (case kF => assumption); (case kK => assumption); (case kx => kernel_rfl))
  cases hx
  k_dflt (refine' clause_as (cls := .type "ValueError") R₁ ?kF ?kK U₁ X T ?kD KtsTurn.refl ?kc (fun g₅ F₅ X₅ P₅ Q5 E5 q => by k_dflt (refine' name_B F₅ X₅ P₅ ?e PyProof.Rows.Boot.«ValueError» (by decide) q; (case e => k_is))) ?kx ?_ rfl rfl; (case kF => assumption); (case kK => assumption); (case kD => assumption); (case kc => (rintro o ⟨tb, rfl⟩; rfl)); (case kx => kernel_rfl))
  intro h₂ g₂ oe tk hp fr T₂ F₂ N₂ B₂ X₂ T₂' D₂
  obtain ⟨tb, rfl⟩ := hp
  k_steps
  all_goals exact post _ _ _ _ (.value _ _ _ _ _ _) (by k_asm) (by k_asm)
theorem ask_key {w : World} {nw : List (Addr × Obj)} {it : Addr} {i : Int} {D : Nat} {k : Str} (hD : D ≤ 20) (hY : Yields w nw (.ref it) i D (.exc (.key k))) : Asks w nw (.ref it) i (.exc (.key k)) := by
  unfold Asks
  w_top off
  k_fill
  intro ti dp un gd cn cs a ccd A₀ base L m s Q E p loose mean mg mb nw' B F X N T hk hd hu hn post
  refine wpAny_call ?_
  k_dflt (refine' code_defS0 ?k1 ?k2 ?k3 ?k4 ?k5 ?kA ?k6 ?k7 ?k8 ?k9 ?kB ?_ ?cK ?c2 ?c3 ?c4 ?c5; (case kA => exact rfl); (case k2 => k_asm); (case k1 => k_asm); (case k3 => k_asm); (case k4 => k_asm); (case k5 => k_asm); (case k6 => k_is); (case k7 => k_is); (case k8 => k_room); (case k9 => exact BindsTo.of_eq rfl); (case kB => exact locs rfl); (case cK => exact hk); (case c2 => exact rfl); (case c3 => exact rfl); (case c4 => exact rfl); (case c5 => decide); k_whole; intro g' L' h' FG' F' N' B' X' T' D'; (try dsimp only); (try k_fold))
  k_steps
  rename XIs _ _ _ _ => hx
  refine' land_start (XIs.still hx) (by assumption) (by assumption) (by assumption) ?_
  intro h₁ R₁ U₁
  k_dflt (refine' clause_no R₁ ?kF ?kK U₁ X T (XIs.cls hx) (fun g₅ F₅ X₅ P₅ Q5 E5 q => by k_dflt (refine' name_K F₅ X₅ P₅ ?e q; (case e => k_is))) ?kx ?_; (case kF => assumption); (case kK => assumption); (case kx => kernel_rfl))
  cases hx
  k_dflt (refine' clause_as (cls := .type "KeyError") R₁ ?kF ?kK U₁ X T ?kD KtsTurn.refl ?kc (fun g₅ F₅ X₅ P₅ Q5 E5 q => by k_dflt (refine' name_B F₅ X₅ P₅ ?e PyProof.Rows.Boot.«KeyError» (by decide) q; (case e => k_is))) ?kx ?_ rfl rfl; (case kF => assumption); (case kK => assumption); (case kD => assumption); (case kc => (rintro o ⟨tb, rfl⟩; rfl)); (case kx => kernel_rfl))
  intro h₂ g₂ oe tk hp fr T₂ F₂ N₂ B₂ X₂ T₂' D₂
  obtain ⟨tb, rfl⟩ := hp
  k_steps
  all_goals exact post _ _ _ _ (.key _ _ _ _ _ _ _) (by k_asm) (by k_asm)
theorem ask_fault {w : World} {nw : List (Addr × Obj)} {it : Addr} {i : Int} {D : Nat} {c v : Value} (hD : D ≤ 20) (hY : Yields w nw (.ref it) i D (.exc (.fault c v))) : Asks w nw (.ref it) i (.exc (.fault c v)) := by
  unfold Asks
  w_top off
  k_fill
  intro ti dp un gd cn cs a ccd A₀ base L m s Q E p loose mean mg mb nw' B F X N T hk hd hu hn post
  refine wpAny_call ?_
  k_dflt (refine' code_defS0 ?k1 ?k2 ?k3 ?k4 ?k5 ?kA ?k6 ?k7 ?k8 ?k9 ?kB ?_ ?cK ?c2 ?c3 ?c4 ?c5; (case kA => exact rfl); (case k2 => k_asm); (case k1 => k_asm); (case k3 => k_asm); (case k4 => k_asm); (case k5 => k_asm); (case k6 => k_is); (case k7 => k_is); (case k8 => k_room); (case k9 => exact BindsTo.of_eq rfl); (case kB => exact locs rfl); (case cK => exact hk); (case c2 => exact rfl); (case c3 => exact rfl); (case c4 => exact rfl); (case c5 => decide); k_whole; intro g' L' h' FG' F' N' B' X' T' D'; (try dsimp only); (try k_fold))
  k_steps
  rename XIs _ _ _ _ => hx
  refine' land_start (XIs.still hx) (by assumption) (by assumption) (by assumption) ?_
  intro h₁ R₁ U₁
  cases hx
  k_dflt (refine' clause_as (cls := .ref 51) R₁ ?kF ?kK U₁ X T ?kD KtsTurn.refl ?kc (fun g₅ F₅ X₅ P₅ Q5 E5 q => by k_dflt (refine' name_K F₅ X₅ P₅ ?e q; (case e => k_is))) ?kx ?_ rfl rfl; (case kF => assumption); (case kK => assumption); (case kD => assumption); (case kc => (rintro o ⟨tb, rfl⟩; rfl)); (case kx => kernel_rfl))
  intro h₂ g₂ oe tk hp fr T₂ F₂ N₂ B₂ X₂ T₂' D₂
  obtain ⟨tb, rfl⟩ := hp
  k_steps
  all_goals exact post _ _ _ _ (.fault _ _ _ _ _ _ _ _ _ _ (fun q hq => fr q (List.mem_append_right _ hq))) (by k_asm) (by k_asm)
end Mine
end
section
open PySem PySem.W PyProof.Rows PySem.Calls
set_option Elab.async false
set_option maxRecDepth 100000
set_option maxHeartbeats 8000000
namespace Mine
/-- a call that gives `v` and leaves the ledger -/
def Gives (w : World) (D : Nat) (nw : List (Addr × Obj)) (f : Addr) (args : List Value) (v : Value) : Prop :=
  ∀ (dp un : Nat) (gd : Option (List Code)) (cn : Str) (cs : Scope) (a : Addr) (ccd : Value) (outer : List Env) (A₀ : Around) (base h₀ : Heap) (L : Addr) (m : Str → Option Value) (s : Shared) (Q E : Value → Shared → Prop)
    (p : Program) (loose : List Str) (mean : ExcName → Option Value) (mg mb : Str → Option Value) (nw' : List (Addr × Obj)),
    Below A₀ base outer h₀ → Fr h₀ L s.heap m → (hdx.heap_39 w.params).In h₀ → News h₀ L s.heap nw' → Top p loose mean mg mb h₀ → cs.kind = .function → dp + D ≤ 340 → un + 8 * D ≤ 80 → (∀ q ∈ nw, q ∈ nw') →
    (∀ h' tk', Fr h₀ L h' m → News h₀ L h' nw' → Q v { s with heap := h', toks := tk' }) →
    wpAny (model PySem.Challenge.rw_kn0109_06.row.prog w) (top1 dp un gd (envOf cn cs L a ccd) outer) (call (.ref f) args) Q E s
local macro_rules | `(tactic| k_room) => `(tactic| ((try simp only [depth_mark, depth_under_make, depth_under_kw, depth_in1, depth_deeper] at *); (try dsimp only [top1] at *); (simp only [recursionLimit] at *); omega))
section
variable {prog : Program} {w : World} {A : Around} {E : Value → Shared → Prop} {s : Shared} {h₀ : Heap} {L b t : Addr} {news : List (Addr × Obj)} {Q : Value → Shared → Prop} {o : Obj}
theorem isi3 {T : String} {vs : List Bool} (N : News h₀ L s.heap news) (h1 : (b, o) ∈ news) (hc : o.cls = .type T) (h2 : (t, tupOf #[.type "list", .type "dict", .type "tuple"]) ∈ news) (ha : AnswersAll (fun s => s.TypeIs (.ref b) T) (.ref b) [.type "list", .type "dict", .type "tuple"] vs) (hv : vs.any id = true)
    (q : ∀ tk, Q (.bool true) { s with toks := tk }) : wpAny (model prog w) A (call (.builtin "isinstance") [.ref b, .ref t]) Q E s :=
  IsiPair.tupleOfB (Tx := T) (x := .ref b) (cs := [.type "list", .type "dict", .type "tuple"]) ha ⟨o, (N _ h1).1, hc⟩ (N _ h2).1 hv q
end
theorem ans_list {b : Addr} : AnswersAll (fun s => s.TypeIs (.ref b) "list") (.ref b) [.type "list", .type "dict", .type "tuple"] [true, false, false] := by pv_isi_answers
theorem ans_tuple {b : Addr} : AnswersAll (fun s => s.TypeIs (.ref b) "tuple") (.ref b) [.type "list", .type "dict", .type "tuple"] [false, false, true] := by pv_isi_answers
theorem ans_dict {b : Addr} : AnswersAll (fun s => s.TypeIs (.ref b) "dict") (.ref b) [.type "list", .type "dict", .type "tuple"] [false, true, false] := by pv_isi_answers
local macro_rules | `(tactic| walk_at "call builtin:isinstance") => `(tactic| (k_here; (with_reducible show wpAny _ _ (call _ [Value.ref _, Value.ref _]) _ _ _); k_dflt (refine' isi3 ?N ?h1 ?hc ?h2 ?ha ?hv ?_; (case N => k_asm); (case h1 => (repeat (first | with_reducible assumption | with_reducible refine List.mem_cons_of_mem _ ?_))); (case hc => exact rfl); (case h2 => (repeat (first | with_reducible exact List.mem_cons_self .. | with_reducible refine List.mem_cons_of_mem _ ?_))); (case ha => first | exact ans_list | exact ans_tuple | exact ans_dict); (case hv => exact rfl)); intro tk'; (try dsimp only)))
theorem same_int {w : World} {nw : List (Addr × Obj)} {x : Int} {t1 t2 : Tok}  : Gives w 1 nw 102 [.int x t1, .int x t2] (.bool true) := by
  unfold Gives
  w_top off
  k_fill
  intro dp un gd cn cs a ccd outer A₀ base h₀ L m s Q E p loose mean mg mb nw' B F X N T hk hd hu hn post
  refine wpAny_call ?_
  k_dflt cell_enter
  k_steps
  all_goals ((try rw [show (x == x) = true from by simp]); exact post _ _ (by k_asm) (cb_drop (by assumption) fun p hp => .tail _ hp))
theorem same_str {w : World} {nw : List (Addr × Obj)} {x : Str} {t1 t2 : Tok}  : Gives w 1 nw 102 [.str x t1, .str x t2] (.bool true) := by
  unfold Gives
  w_top off
  k_fill
  intro dp un gd cn cs a ccd outer A₀ base h₀ L m s Q E p loose mean mg mb nw' B F X N T hk hd hu hn post
  refine wpAny_call ?_
  k_dflt cell_enter
  k_steps
  all_goals (rw [show (x == x) = true from by simp]; exact post _ _ (by k_asm) (cb_drop (by assumption) fun p hp => .tail _ hp))
theorem same_none {w : World} {nw : List (Addr × Obj)}   : Gives w 1 nw 102 [.none, .none] (.bool true) := by
  unfold Gives
  w_top off
  k_fill
  intro dp un gd cn cs a ccd outer A₀ base h₀ L m s Q E p loose mean mg mb nw' B F X N T hk hd hu hn post
  refine wpAny_call ?_
  k_dflt cell_enter
  k_steps
  all_goals (exact post _ _ (by k_asm) (cb_drop (by assumption) fun p hp => .tail _ hp))
theorem same_list {w : World} {nw : List (Addr × Obj)} {b : Addr} {vs : Array Value} {n : Nat} (h1 : (b, listOf vs n) ∈ nw) : Gives w 1 nw 102 [.ref b, .ref b] (.bool true) := by
  unfold Gives
  w_top off
  k_fill
  intro dp un gd cn cs a ccd outer A₀ base h₀ L m s Q E p loose mean mg mb nw' B F X N T hk hd hu hn post
  replace h1 := hn _ h1
  refine wpAny_call ?_
  k_dflt cell_enter
  k_steps
  all_goals (exact post _ _ (by k_asm) (cb_drop (by assumption) fun p hp => .tail _ hp))
theorem same_tuple {w : World} {nw : List (Addr × Obj)} {b : Addr} {vs : Array Value} (h1 : (b, tupOf vs) ∈ nw) : Gives w 1 nw 102 [.ref b, .ref b] (.bool true) := by
  unfold Gives
  w_top off
  k_fill
  intro dp un gd cn cs a ccd outer A₀ base h₀ L m s Q E p loose mean mg mb nw' B F X N T hk hd hu hn post
  replace h1 := hn _ h1
  refine wpAny_call ?_
  k_dflt cell_enter
  k_steps
  all_goals (exact post _ _ (by k_asm) (cb_drop (by assumption) fun p hp => .tail _ hp))
theorem same_dict {w : World} {nw : List (Addr × Obj)} {b : Addr} {es : List DictEntry} {n : Nat} (h1 : (b, dictOf es n) ∈ nw) : Gives w 1 nw 102 [.ref b, .ref b] (.bool true) := by
  unfold Gives
  w_top off
  k_fill
  intro dp un gd cn cs a ccd outer A₀ base h₀ L m s Q E p loose mean mg mb nw' B F X N T hk hd hu hn post
  replace h1 := hn _ h1
  refine wpAny_call ?_
  k_dflt cell_enter
  k_steps
  all_goals (exact post _ _ (by k_asm) (cb_drop (by assumption) fun p hp => .tail _ hp))
end Mine
end
section
open PySem PySem.W PyProof.Rows PySem.Calls
set_option Elab.async false
set_option maxRecDepth 100000
set_option maxHeartbeats 8000000
namespace Mine
theorem at0 {x y : Value} : At #[x, y] 0 x := .inl ⟨by decide, by decide, rfl⟩
theorem at1 {x y : Value} : At #[x, y] 1 y := .inl ⟨by decide, by decide, rfl⟩
local macro_rules | `(tactic| k_room) => `(tactic| ((try simp only [depth_mark, depth_under_make, depth_under_kw, depth_in1, depth_deeper] at *); (try dsimp only [top1] at *); (simp only [recursionLimit] at *); omega))
local macro_rules | `(tactic| walk_at "subscriptTail") => `(tactic| (k_here; (with_reducible show wpAny _ _ (subscriptTail _ _ (Value.ref _) (Value.int _ _)) _ _ _); k_dflt (refine' item_at ?k1 ?k2 ?_; (case k1 => exact News.isList (by k_asm) (by k_mem)); (case k2 => first | with_reducible assumption | exact at0 | exact at1); k_whole)))
local macro_rules | `(tactic| walk_at "call ref") => `(tactic| (k_here; (with_reducible show wpAny _ _ (call (Value.ref _) [_, _] _) _ _ _); (with_reducible rename Gives _ _ _ _ _ _ => hG); k_dflt (refine' hG _ _ _ _ _ _ _ _ _ _ _ _ _ _ _ _ _ _ _ _ _ _ ?B ?F ?X ?N ?T ?hk ?hd ?hu ?hn ?_; (case B => k_asm); (case F => k_asm); (case X => k_asm); (case N => k_asm); (case T => k_asm); (case hk => exact rfl); (case hd => ((try dsimp only [top1, Around.in1]); omega)); (case hu => ((try dsimp only [top1, Around.in1]); omega)); (case hn => assumption)); (try dsimp only); intro h' tk' F' N'))
local macro_rules | `(tactic| walk_at "call builtin:len") => `(tactic| (k_here; (with_reducible show wpAny _ _ (call (Value.builtin "len") [Value.ref _]) _ _ _); k_dflt (refine' call_len_list ?k1 ?k2 ?_; (case k1 => exact News.isList (by k_asm) (by k_mem)); (case k2 => omega); k_whole)))
theorem right_given {w : World} {nw : List (Addr × Obj)} {g1 g2 sh : Addr} {t1 t2 : Nat} {svs : Array Value} {c : Nat} {k n : Int} {tk tn : Tok} {v : Value} (h1 : (g1, listOf #[.str "given" t1, v] 0) ∈ nw) (h2 : (g2, listOf #[.str "given" t2, v] 0) ∈ nw)
    (h3 : (sh, listOf svs c) ∈ nw) (hs : svs.size ≤ 4) (h4 : n < svs.size) (h5 : At svs (svs.size - 1 - n) v) (hG : Gives w 1 nw 102 [v, v] (.bool true)) : Gives w 3 nw 116 [.ref g1, .ref g2, .ref sh, .int k tk, .int n tn] (.bool true) := by
  unfold Gives
  w_top off
  k_fill
  intro dp un gd cn cs a ccd outer A₀ base h₀ L m s Q E p loose mean mg mb nw' B F X N T hk hd hu hn post
  replace h1 := hn _ h1
  replace h2 := hn _ h2
  replace h3 := hn _ h3
  refine wpAny_call ?_
  k_dflt cell_enter
  k_steps
  all_goals (first | exact post _ _ (by k_asm) (by k_asm) | exact post _ _ (by k_asm) (cb_drop (by assumption) fun p hp => .tail _ hp))
end Mine
end
section
open PySem PySem.W PyProof.Rows PySem.Calls
set_option Elab.async false
set_option maxRecDepth 100000
set_option maxHeartbeats 8000000
namespace Mine
theorem exc_open {prog : Program} {w : World} {A : Around} {E : Value → Shared → Prop} {s : Shared} {K : Frag} {x C : Addr} {ox : Obj} {od : Option Obj} {name : Str} {expr : Bool} {Q : Value → Shared → Prop} (X : K.In s.heap) (I : InstAt s.heap x ox C od)
    (hga : findIn K (.ref C) "__getattribute__" = some (some (.builtin "BaseException.__getattribute__"))) (hgb : findIn K (.ref C) "__getattr__" = some none)
    (h : wpAny (model prog w) A (call (.builtin "BaseException.__getattribute__") [.ref x, .str name s.toks]) (fun v s' => handedIn v = true ∧ Q v s') (fun _ _ => False) { s with toks := s.toks + 1 }) :
    wpAny (model prog w) A (getAttr (.ref x) name expr) Q E s := by
  obtain ⟨hh, g, d, t, os⟩ := s
  have L0 := I.type (M := model prog w)
  have L1 := looks_findIn (M := model prog w) X hga
  have L2 := looks_findIn (M := model prog w) X hgb
  have FX : ExcAttrFacts "ValueError" := PySem.F.excAttr_ValueError
  unfold getAttr getAttrBy
  refine wpAny_bind (wpAny_mkText (wpAny_holding (wpAny_bind (L0.at (wpAny_bind (L1.at ?_))))))
  show wpAny _ _ (getAttrByItsOwn _ _ _ _ _ _) _ _ _
  unfold getAttrByItsOwn
  refine wpAny_bind (show wpAny _ _ (hookBefore (.ref C)) _ _ _ from ?_)
  refine L2.at ?_
  have f3 := FX.ga.bind (.ref x)
  refine wpAny_bind (wpAny_attempt (wpAny_holding ?_))
  unfold callGetattribute
  rw [show (expr && onTheHeap (Value.builtin "BaseException.__getattribute__")) = false from by cases expr <;> rfl]
  show wpAny _ _ (boundAndCalled _ _ _) _ _ _
  unfold boundAndCalled
  refine wpAny_bind ?_
  rw [f3]
  refine wpAny_pure ?_
  refine wpAny_mono h (fun v s' z => ?_) fun _ _ (z : False) => z.elim
  show wpAny _ _ (handedOut v) _ _ _
  rw [handedOut_of z.1]
  exact wpAny_pure z.2
local macro_rules | `(tactic| x_close) => `(tactic| (
  exact ⟨rfl, by assumption⟩))
theorem fact_X (w : World) {h : Heap} {e : Addr} {dx t : Addr} {tb : Value} (he : h.get? e = some (excObj (.ref 51) (some dx) t tb)) : h.get? e = some ⟨.ref 51, some dx, .fields #[.ref t, tb, .none, .none, .bool false, .none], #[]⟩ := he
theorem fact_XD (w : World) {h : Heap} {dx : Addr} {t1 t2 : Nat} {c v : Value} (he : h.get? dx = some (faultDict w t1 t2 c v)) : h.get? dx = some ⟨.type "dict", none, .dict #[⟨xh w "faultCode", .str "faultCode" t1, c⟩, ⟨xh w "faultString", .str "faultString" t2, v⟩] 2, #[]⟩ := by
  rw [he, ← faultDict_eq]
theorem inst_X {h : Heap} {e dx t : Addr} {tb : Value} {o : Obj} (he : h.get? e = some (excObj (.ref 51) (some dx) t tb)) (hd : h.get? dx = some o) : InstAt h e (excObj (.ref 51) (some dx) t tb) 51 (some o) := by
  constructor <;> first | assumption | rfl | exact ⟨_, rfl, hd⟩
theorem exc_code (w : World) (s : Shared) (KX : (hdx.heap_39 w.params).In s.heap) {e dx t : Addr} {tb : Value} {t1 t2 : Nat} {c : Str} {tc : Nat} {v : Value} {A : Around} (envs : List Env) (hA : A.handled = none) (hf : A.frames = some envs) (Q E : Value → Shared → Prop)
   (he : s.heap.get? e = some (excObj (.ref 51) (some dx) t tb)) (hd : s.heap.get? dx = some (faultDict w t1 t2 (.str c tc) v)) (h1 : A.depth ≤ 400) (h2 : A.units ≤ 400)
   (post : Q (.str c tc) { s with toks := s.toks + 1 }) :
   wpAny (model PySem.Challenge.rw_kn0109_06.row.prog w) A (getAttr (.ref e) "faultCode" true) Q E s := by
  refine exc_open KX (inst_X he hd) (by kernel_rfl) (by kernel_rfl) ?_
  refine weaken (A' := { handled := none, depth := 500, frames := some envs, guards := A.guards, units := 500 }) ?_ hA (Nat.le_trans h1 (show 400 ≤ 500 from by decide)) hf rfl (Nat.le_trans h2 (show 400 ≤ 500 from by decide))
  generalize A.guards = gd
  have g1 := fact_X w he
  have g2 := fact_XD w hd
  x_run
theorem exc_string (w : World) (s : Shared) (KX : (hdx.heap_39 w.params).In s.heap) {e dx t : Addr} {tb : Value} {t1 t2 : Nat} {c : Value} {b : Addr} {A : Around} (envs : List Env) (hA : A.handled = none) (hf : A.frames = some envs) (Q E : Value → Shared → Prop)
   (he : s.heap.get? e = some (excObj (.ref 51) (some dx) t tb)) (hd : s.heap.get? dx = some (faultDict w t1 t2 c (.ref b))) (h1 : A.depth ≤ 400) (h2 : A.units ≤ 400)
   (post : Q (.ref b) { s with toks := s.toks + 1 }) :
   wpAny (model PySem.Challenge.rw_kn0109_06.row.prog w) A (getAttr (.ref e) "faultString" true) Q E s := by
  refine exc_open KX (inst_X he hd) (by kernel_rfl) (by kernel_rfl) ?_
  refine weaken (A' := { handled := none, depth := 500, frames := some envs, guards := A.guards, units := 500 }) ?_ hA (Nat.le_trans h1 (show 400 ≤ 500 from by decide)) hf rfl (Nat.le_trans h2 (show 400 ≤ 500 from by decide))
  generalize A.guards = gd
  have g1 := fact_X w he
  have g2 := fact_XD w hd
  x_run
theorem exc_argsX (w : World) (s : Shared) (KX : (hdx.heap_39 w.params).In s.heap) {e dx t : Addr} {tb : Value} {t1 t2 : Nat} {c v : Value} {A : Around} (envs : List Env) (hA : A.handled = none) (hf : A.frames = some envs) (Q E : Value → Shared → Prop)
   (he : s.heap.get? e = some (excObj (.ref 51) (some dx) t tb)) (hd : s.heap.get? dx = some (faultDict w t1 t2 c v)) (h1 : A.depth ≤ 400) (h2 : A.units ≤ 400)
   (post : Q (.ref t) { s with toks := s.toks + 1 }) :
   wpAny (model PySem.Challenge.rw_kn0109_06.row.prog w) A (getAttr (.ref e) "args" true) Q E s := by
  refine exc_open KX (inst_X he hd) (by kernel_rfl) (by kernel_rfl) ?_
  refine weaken (A' := { handled := none, depth := 500, frames := some envs, guards := A.guards, units := 500 }) ?_ hA (Nat.le_trans h1 (show 400 ≤ 500 from by decide)) hf rfl (Nat.le_trans h2 (show 400 ≤ 500 from by decide))
  generalize A.guards = gd
  have g1 := fact_X w he
  have g2 := fact_XD w hd
  x_run
end Mine
end
section
open PySem PySem.W PyProof.Rows PySem.Calls PySem.SeqAt
set_option Elab.async false
set_option maxRecDepth 100000
set_option maxHeartbeats 2000000
namespace Mine
section
variable {w : World} {h₀ : Heap} {L : Addr} {h : Heap} {g : Array GenState} {d : Drawn} {tk : Nat} {os : OsState} {news : List (Addr × Obj)} {m : Str → Option Value} {e dx t : Addr} {tb : Value} {t1 t2 : Nat} {A : Around} {envs : List Env} {Q E : Value → Shared → Prop}
theorem exc_codeN {c : Str} {tc : Tok} {v : Value} (F : Fr h₀ L h m) (X : (hdx.heap_39 w.params).In h₀) (N : News h₀ L h news) (he : (e, excObj (.ref 51) (some dx) t tb) ∈ news) (hd : (dx, faultDict w t1 t2 (.str c tc) v) ∈ news)
   (hA : A.handled = none) (hf : A.frames = some envs) (h1 : A.depth ≤ 400) (h2 : A.units ≤ 400) (post : Q (.str c tc) ⟨h, g, d, tk + 1, os⟩) :
   wpAny (model PySem.Challenge.rw_kn0109_06.row.prog w) A (getAttr (.ref e) "faultCode" true) Q E ⟨h, g, d, tk, os⟩ :=
  exc_code w _ (X.keeps F.keep) envs hA hf Q E (N.get he) (N.get hd) h1 h2 post
theorem exc_stringN {c : Value} {b : Addr} (F : Fr h₀ L h m) (X : (hdx.heap_39 w.params).In h₀) (N : News h₀ L h news) (he : (e, excObj (.ref 51) (some dx) t tb) ∈ news) (hd : (dx, faultDict w t1 t2 c (.ref b)) ∈ news)
   (hA : A.handled = none) (hf : A.frames = some envs) (h1 : A.depth ≤ 400) (h2 : A.units ≤ 400) (post : Q (.ref b) ⟨h, g, d, tk + 1, os⟩) :
   wpAny (model PySem.Challenge.rw_kn0109_06.row.prog w) A (getAttr (.ref e) "faultString" true) Q E ⟨h, g, d, tk, os⟩ :=
  exc_string w _ (X.keeps F.keep) envs hA hf Q E (N.get he) (N.get hd) h1 h2 post
theorem exc_argsN {c v : Value} (F : Fr h₀ L h m) (X : (hdx.heap_39 w.params).In h₀) (N : News h₀ L h news) (he : (e, excObj (.ref 51) (some dx) t tb) ∈ news) (hd : (dx, faultDict w t1 t2 c v) ∈ news)
   (hA : A.handled = none) (hf : A.frames = some envs) (h1 : A.depth ≤ 400) (h2 : A.units ≤ 400) (post : Q (.ref t) ⟨h, g, d, tk + 1, os⟩) :
   wpAny (model PySem.Challenge.rw_kn0109_06.row.prog w) A (getAttr (.ref e) "args" true) Q E ⟨h, g, d, tk, os⟩ :=
  exc_argsX w _ (X.keeps F.keep) envs hA hf Q E (N.get he) (N.get hd) h1 h2 post
theorem item_atN {prog : Program} {value slice : PySem.Expr} {l : Addr} {vs : Array Value} {n : Nat} {k : Int} {u : Tok} {v : Value} {Q : Value → Shared → Prop} (N : News h₀ L h news) (hm : (l, listOf vs n) ∈ news) (ha : At vs k v) (post : Q v ⟨h, g, d, tk, os⟩)
    (hs : subscripted slice false (.ref l) (.int k u) = operate [.ref l, .int k u] (getItem (.ref l) (.int k u)) := by with_unfolding_all rfl) :
    wpAny (model prog w) A (subscriptTail value slice (.ref l) (.int k u)) Q E ⟨h, g, d, tk, os⟩ := item_at (N.isList hm) ha post hs
theorem len_N {prog : Program} {l : Addr} {vs : Array Value} {n : Nat} {Q : Value → Shared → Prop} (N : News h₀ L h news) (hm : (l, listOf vs n) ∈ news) (hs : vs.size ≤ 4) (post : Q (.int vs.size (tk + 1)) ⟨h, g, d, tk + 1 + 1, os⟩) :
    wpAny (model prog w) A (call (.builtin "len") [.ref l]) Q E ⟨h, g, d, tk, os⟩ := call_len_list (N.isList hm) (by omega) post
theorem ne_empty {prog : Program} {a b : Addr} (N : News h₀ L h news) (ha : (a, tupOf #[]) ∈ news) (hb : (b, tupOf #[]) ∈ news) (hu : A.units + 64 < cLine) (post : Q (.bool false) ⟨h, g, d, tk, os⟩) :
   wpAny (model prog w) A (compareOp .NotEq (.ref a) (.ref b)) Q E ⟨h, g, d, tk, os⟩ :=
  ne_dataH (reads_tuple_at (N.get ha) rfl rfl .nil) (reads_tuple_at (N.get hb) rfl rfl .nil) (by decide) (by decide) hu post
end
local macro_rules | `(tactic| k_room) => `(tactic| ((try simp only [depth_mark, depth_under_make, depth_under_kw, depth_in1, depth_deeper] at *); (try dsimp only [top1] at *); (simp only [recursionLimit] at *); omega))
local macro_rules | `(tactic| walk_at "subscriptTail") => `(tactic| (k_here; (with_reducible show wpAny _ _ (subscriptTail _ _ (Value.ref _) (Value.int _ _)) _ _ _); k_dflt (refine' item_atN ?k0 ?k1 ?k2 ?_; (case k0 => k_asm); (case k1 => (repeat (first | with_reducible assumption | with_reducible exact List.mem_cons_self .. | with_reducible refine List.mem_cons_of_mem _ ?_))); (case k2 => first | with_reducible assumption | exact at0 | exact at1); k_whole)))
local macro_rules | `(tactic| walk_at "subscriptTail") => `(tactic| (k_here; (with_reducible show wpAny _ _ (subscriptTail _ _ (Value.ref _) (Value.str _ _)) _ _ _); k_dflt (refine' dict_item ?k1 ?k2 ?k3 ?k4 ?_; (case k1 => k_asm); (case k2 => (repeat (first | with_reducible assumption | with_reducible exact List.mem_cons_self .. | with_reducible refine List.mem_cons_of_mem _ ?_))); (case k3 => with_reducible assumption); (case k4 => with_reducible assumption); k_whole)))
local macro_rules | `(tactic| walk_at "call builtin:len") => `(tactic| (k_here; (with_reducible show wpAny _ _ (call (Value.builtin "len") [Value.ref _]) _ _ _); k_dflt (refine' len_N ?k0 ?k1 ?k2 ?_; (case k0 => k_asm); (case k1 => (repeat (first | with_reducible assumption | with_reducible exact List.mem_cons_self .. | with_reducible refine List.mem_cons_of_mem _ ?_))); (case k2 => omega); k_whole)))
local macro_rules | `(tactic| walk_at "call ref") => `(tactic| (k_here; (with_reducible show wpAny _ _ (call (Value.ref _) [Value.str _ _, Value.str _ _] _) _ _ _); k_dflt (refine' (same_str (nw := [])) _ _ _ _ _ _ _ _ _ _ _ _ _ _ _ _ _ _ _ _ _ _ ?B ?F ?X ?N ?T ?hk ?hd ?hu ?hn ?_; (case B => k_asm); (case F => k_asm); (case X => k_asm); (case N => k_asm); (case T => k_asm); (case hk => exact rfl); (case hd => ((try dsimp only [top1, Around.in1]); omega)); (case hu => ((try dsimp only [top1, Around.in1]); omega)); (case hn => exact fun _ h => nomatch h)); (try dsimp only); intro h' tk' F' N'))
local macro_rules | `(tactic| walk_at "getAttr ref") => `(tactic| (k_here; k_dflt (first
  | ((with_reducible show wpAny _ _ (getAttr (Value.ref _) ("faultCode" : Str) _) _ _ _); refine' exc_codeN ?F ?X ?N ?he ?hd ?hA ?hf ?h1 ?h2 ?_; (case hA => exact rfl); (case hf => exact rfl); (case F => k_asm); (case X => k_asm); (case N => k_asm); (case he => (repeat (first | with_reducible assumption | with_reducible exact List.mem_cons_self .. | with_reducible refine List.mem_cons_of_mem _ ?_))); (case hd => (repeat (first | with_reducible assumption | with_reducible exact List.mem_cons_self .. | with_reducible refine List.mem_cons_of_mem _ ?_))); (case h1 => ((try dsimp only [Around.deeper, top1]); omega)); (case h2 => ((try dsimp only [Around.deeper, top1]); omega)); k_whole)
  | ((with_reducible show wpAny _ _ (getAttr (Value.ref _) ("faultString" : Str) _) _ _ _); refine' exc_stringN ?F ?X ?N ?he ?hd ?hA ?hf ?h1 ?h2 ?_; (case hA => exact rfl); (case hf => exact rfl); (case F => k_asm); (case X => k_asm); (case N => k_asm); (case he => (repeat (first | with_reducible assumption | with_reducible exact List.mem_cons_self .. | with_reducible refine List.mem_cons_of_mem _ ?_))); (case hd => (repeat (first | with_reducible assumption | with_reducible exact List.mem_cons_self .. | with_reducible refine List.mem_cons_of_mem _ ?_))); (case h1 => ((try dsimp only [Around.deeper, top1]); omega)); (case h2 => ((try dsimp only [Around.deeper, top1]); omega)); k_whole)
  | ((with_reducible show wpAny _ _ (getAttr (Value.ref _) ("args" : Str) _) _ _ _); refine' exc_argsN ?F ?X ?N ?he ?hd ?hA ?hf ?h1 ?h2 ?_; (case hA => exact rfl); (case hf => exact rfl); (case F => k_asm); (case X => k_asm); (case N => k_asm); (case he => (repeat (first | with_reducible assumption | with_reducible exact List.mem_cons_self .. | with_reducible refine List.mem_cons_of_mem _ ?_))); (case hd => (repeat (first | with_reducible assumption | with_reducible exact List.mem_cons_self .. | with_reducible refine List.mem_cons_of_mem _ ?_))); (case h1 => ((try dsimp only [Around.deeper, top1]); omega)); (case h2 => ((try dsimp only [Around.deeper, top1]); omega)); k_whole))))
local macro_rules | `(tactic| walk_at "compareOp NotEq ref ref") => `(tactic| (k_here; (with_reducible show wpAny _ _ (compareOp CmpOp.NotEq (Value.ref _) (Value.ref _)) _ _ _); k_dflt (refine' ne_empty ?N ?h1 ?h2 ?h3 ?_; (case N => k_asm); (case h1 => (repeat (first | with_reducible assumption | with_reducible exact List.mem_cons_self .. | with_reducible refine List.mem_cons_of_mem _ ?_))); (case h2 => (repeat (first | with_reducible assumption | with_reducible exact List.mem_cons_self .. | with_reducible refine List.mem_cons_of_mem _ ?_))); (case h3 => ((try dsimp only [Around.deeper, top1]); (simp only [cLine]); omega)); k_whole)))
theorem right_fault {w : World} {nw : List (Addr × Obj)} {g1 g2 sh e1 e2 t1 t2 dx1 dx2 b d : Addr} {u1 u2 v1 v2 v3 v4 : Nat} {tb1 tb2 : Value} {cd : Str} {tc : Tok} {svs : Array Value} {c : Nat} {k n : Int} {tk tn : Tok} {es : List DictEntry} {en : Nat}
    (h1 : (g1, listOf #[.str "fault" u1, .ref e1] 0) ∈ nw) (h2 : (g2, listOf #[.str "fault" u2, .ref e2] 0) ∈ nw)
    (he1 : (e1, excObj (.ref 51) (some dx1) t1 tb1) ∈ nw) (ht1 : (t1, tupOf #[]) ∈ nw) (hd1 : (dx1, faultDict w v1 v2 (.str cd tc) (.ref b)) ∈ nw)
    (he2 : (e2, excObj (.ref 51) (some dx2) t2 tb2) ∈ nw) (ht2 : (t2, tupOf #[]) ∈ nw) (hd2 : (dx2, faultDict w v3 v4 (.str cd tc) (.ref b)) ∈ nw) (hne : e1 ≠ e2)
    (h3 : (sh, listOf svs c) ∈ nw) (hs : svs.size ≤ 4) (h4 : (svs.size : Int) ≤ n) (h5 : k = 5) (h6 : At svs 0 (.ref d)) (h7 : (d, dictOf es en) ∈ nw) (h8 : KeysLit w.params es)
    (h9 : getL "faultCode" es = some (some (.str cd tc))) (h10 : getL "faultString" es = some (some (.ref b))) : Gives w 3 nw 116 [.ref g1, .ref g2, .ref sh, .int k tk, .int n tn] (.bool true) := by
  unfold Gives
  w_top off
  k_fill
  intro dp un gd cn cs a ccd outer A₀ base h₀ L m s Q E p loose mean mg mb nw' B F X N T hk hd hu hn post
  replace h1 := hn _ h1
  replace h2 := hn _ h2
  replace h3 := hn _ h3
  replace h7 := hn _ h7
  replace he1 := hn _ he1
  replace he2 := hn _ he2
  replace ht1 := hn _ ht1
  replace ht2 := hn _ ht2
  replace hd1 := hn _ hd1
  replace hd2 := hn _ hd2
  refine wpAny_call ?_
  k_dflt cell_enter
  k_steps
  all_goals try (exfalso; omega)
  refine iter_listUnr rfl (by k_asm) (by k_asm) (.head _) rfl rfl (fun I lI => ListRest.succ fun it h1' tk1 hc1 F1 N1 => ?_)
  k_steps
  refine UnrEnd.intro (by k_asm) (by k_asm) _ (fun p hp => ?sub) (fun p hp => Nat.ne_of_lt (lI p hp)) ⟨.head _, ListRest.succ fun it2 h2' tk2 hc2 F2 N2 => ?_⟩
  case sub => first | exact hp | exact .tail _ hp | exact .tail _ (.tail _ hp)
  k_steps
  refine UnrEnd.intro (by k_asm) (by k_asm) _ (fun p hp => ?sub) (fun p hp => Nat.ne_of_lt (lI p hp)) ⟨.head _, ListRest.zero fun h3' tk3 F3 N3 => ?_⟩
  case sub => first | exact hp | exact .tail _ hp | exact .tail _ (.tail _ hp)
  k_steps
  exact post _ _ (by k_asm) (cb_drop (by assumption) fun p hp => .tail _ hp)
end Mine
end
section
open PySem PySem.W PyProof.Rows PySem.Calls PySem.SeqAt
set_option Elab.async false
set_option maxRecDepth 100000
set_option maxHeartbeats 8000000
namespace Mine
theorem shaped_pair (x y : Str) (hx : PyData.strOk x = true) (hy : PyData.strOk y = true) : shaped (.list [.str x, .tuple [.str y]]) = true := by
  simp [shaped, PyData.canLay0, PyData.canLayAll0, PyData.depth, PyData.depthAll, hx, hy]
theorem reads_pair {h : Heap} {g a : Addr} {x y : Str} {t1 t2 : Nat} (hg : h.get? g = some (listOf #[.str x t1, .ref a] 0)) (ha : h.get? a = some (tupOf #[.str y t2])) : Reads h (.ref g) (.list [.str x, .tuple [.str y]]) [g] :=
  reads_list_at hg rfl rfl (.cons (.str x t1) (.cons (reads_tuple_at ha rfl rfl (.cons (.str y t2) .nil)) .nil))
theorem eq_pair {prog : Program} {w : World} {A : Around} {Q E : Value → Shared → Prop} {s : Shared} {g a d b : Addr} {x y : Str} {t1 t2 t3 t4 : Nat}
    (hg : s.heap.get? g = some (listOf #[.str x t1, .ref a] 0)) (ha : s.heap.get? a = some (tupOf #[.str y t2]))
    (hd : s.heap.get? d = some (listOf #[.str x t3, .ref b] 0)) (hb : s.heap.get? b = some (tupOf #[.str y t4])) (hu : A.units + 64 < cLine) (hx : PyData.strOk x = true) (hy : PyData.strOk y = true) (h : Q (.bool true) s) : wpAny (model prog w) A (compareOp .Eq (.ref g) (.ref d)) Q E s := by
  refine eq_dataH (reads_pair hg ha) (reads_pair hd hb) (shaped_pair x y hx hy) (shaped_pair x y hx hy) hu ?_
  rw [eqv_refl _ ((Bool.and_eq_true _ _).mp (shaped_pair x y hx hy)).1]
  exact h
local macro_rules | `(tactic| k_room) => `(tactic| ((try simp only [depth_mark, depth_under_make, depth_under_kw, depth_in1, depth_deeper] at *); (try dsimp only [top1] at *); (simp only [recursionLimit] at *); omega))
local macro_rules | `(tactic| walk_at "subscriptTail") => `(tactic| (k_here; (with_reducible show wpAny _ _ (subscriptTail _ _ (Value.ref _) (Value.int _ _)) _ _ _); k_dflt (refine' item_at ?k1 ?k2 ?_; (case k1 => exact News.isList (by k_asm) (by k_mem)); (case k2 => first | with_reducible assumption | exact at0 | exact at1); k_whole)))
local macro_rules | `(tactic| walk_at "call builtin:len") => `(tactic| (k_here; (with_reducible show wpAny _ _ (call (Value.builtin "len") [Value.ref _]) _ _ _); k_dflt (refine' call_len_list ?k1 ?k2 ?_; (case k1 => exact News.isList (by k_asm) (by k_mem)); (case k2 => omega); k_whole)))
theorem right_key68 {w : World} {nw : List (Addr × Obj)} {g1 g2 sh a1 a2 : Addr} {t1 t2 t3 t4 : Nat} {svs : Array Value} {c : Nat} {k n : Int} {tk tn : Tok} (h1 : (g1, listOf #[.str "key" t1, .ref a1] 0) ∈ nw) (h2 : (g2, listOf #[.str "key" t2, .ref a2] 0) ∈ nw)
    (h1' : (a1, tupOf #[.str "faultCode" t3]) ∈ nw) (h2' : (a2, tupOf #[.str "faultCode" t4]) ∈ nw)
    (h3 : (sh, listOf svs c) ∈ nw) (hs : svs.size ≤ 4) (h4 : (svs.size : Int) ≤ n) (h5 : 6 ≤ k) (h6 : k ≠ 7) : Gives w 3 nw 116 [.ref g1, .ref g2, .ref sh, .int k tk, .int n tn] (.bool true) := by
  unfold Gives
  w_top off
  k_fill
  intro dp un gd cn cs a ccd outer A₀ base h₀ L m s Q E p loose mean mg mb nw' B F X N T hk hd hu hn post
  replace h1 := hn _ h1
  replace h2 := hn _ h2
  replace h1' := hn _ h1'
  replace h2' := hn _ h2'
  replace h3 := hn _ h3
  refine wpAny_call ?_
  k_dflt cell_enter
  k_steps
  all_goals try (exfalso; omega)
  refine eq_pair (News.get (by k_asm) (.tail _ (.tail _ h1))) (News.get (by k_asm) (.tail _ (.tail _ h1'))) (News.get (by k_asm) (.head _)) (News.get (by k_asm) (.tail _ (.head _))) (by show un + _ + 64 < cLine; simp only [cLine]; omega) (by decide +kernel) (by decide +kernel) ?_
  k_steps
  refine eq_pair (News.get (by k_asm) (.tail _ (.tail _ h2))) (News.get (by k_asm) (.tail _ (.tail _ h2'))) (News.get (by k_asm) (.head _)) (News.get (by k_asm) (.tail _ (.head _))) (by show un + _ + 64 < cLine; simp only [cLine]; omega) (by decide +kernel) (by decide +kernel) ?_
  k_steps
  exact post _ _ (by k_asm) (cb_drop (by assumption) fun p hp => .tail _ (.tail _ hp))
theorem right_key7 {w : World} {nw : List (Addr × Obj)} {g1 g2 sh a1 a2 : Addr} {t1 t2 t3 t4 : Nat} {svs : Array Value} {c : Nat} {k n : Int} {tk tn : Tok} (h1 : (g1, listOf #[.str "key" t1, .ref a1] 0) ∈ nw) (h2 : (g2, listOf #[.str "key" t2, .ref a2] 0) ∈ nw)
    (h1' : (a1, tupOf #[.str "faultString" t3]) ∈ nw) (h2' : (a2, tupOf #[.str "faultString" t4]) ∈ nw)
    (h3 : (sh, listOf svs c) ∈ nw) (hs : svs.size ≤ 4) (h4 : (svs.size : Int) ≤ n) (h5 : k = 7) : Gives w 3 nw 116 [.ref g1, .ref g2, .ref sh, .int k tk, .int n tn] (.bool true) := by
  unfold Gives
  w_top off
  k_fill
  intro dp un gd cn cs a ccd outer A₀ base h₀ L m s Q E p loose mean mg mb nw' B F X N T hk hd hu hn post
  replace h1 := hn _ h1
  replace h2 := hn _ h2
  replace h1' := hn _ h1'
  replace h2' := hn _ h2'
  replace h3 := hn _ h3
  refine wpAny_call ?_
  k_dflt cell_enter
  k_steps
  all_goals try (exfalso; omega)
  refine eq_pair (News.get (by k_asm) (.tail _ (.tail _ h1))) (News.get (by k_asm) (.tail _ (.tail _ h1'))) (News.get (by k_asm) (.head _)) (News.get (by k_asm) (.tail _ (.head _))) (by show un + _ + 64 < cLine; simp only [cLine]; omega) (by decide +kernel) (by decide +kernel) ?_
  k_steps
  refine eq_pair (News.get (by k_asm) (.tail _ (.tail _ h2))) (News.get (by k_asm) (.tail _ (.tail _ h2'))) (News.get (by k_asm) (.head _)) (News.get (by k_asm) (.tail _ (.head _))) (by show un + _ + 64 < cLine; simp only [cLine]; omega) (by decide +kernel) (by decide +kernel) ?_
  k_steps
  exact post _ _ (by k_asm) (cb_drop (by assumption) fun p hp => .tail _ (.tail _ hp))
theorem right_value {w : World} {nw : List (Addr × Obj)} {g1 g2 sh a1 a2 : Addr} {t1 t2 t3 t4 : Nat} {svs : Array Value} {c : Nat} {k n : Int} {tk tn : Tok} (h1 : (g1, listOf #[.str "value" t1, .ref a1] 0) ∈ nw) (h2 : (g2, listOf #[.str "value" t2, .ref a2] 0) ∈ nw)
    (h1' : (a1, tupOf #[.str "unexpected type in multicall result" t3]) ∈ nw) (h2' : (a2, tupOf #[.str "unexpected type in multicall result" t4]) ∈ nw)
    (h3 : (sh, listOf svs c) ∈ nw) (hs : svs.size ≤ 4) (h4 : (svs.size : Int) ≤ n) (h5 : k < 4) : Gives w 3 nw 116 [.ref g1, .ref g2, .ref sh, .int k tk, .int n tn] (.bool true) := by
  unfold Gives
  w_top off
  k_fill
  intro dp un gd cn cs a ccd outer A₀ base h₀ L m s Q E p loose mean mg mb nw' B F X N T hk hd hu hn post
  replace h1 := hn _ h1
  replace h2 := hn _ h2
  replace h1' := hn _ h1'
  replace h2' := hn _ h2'
  replace h3 := hn _ h3
  refine wpAny_call ?_
  k_dflt cell_enter
  k_steps
  all_goals try (exfalso; omega)
  refine eq_pair (News.get (by k_asm) (.tail _ (.tail _ h1))) (News.get (by k_asm) (.tail _ (.tail _ h1'))) (News.get (by k_asm) (.head _)) (News.get (by k_asm) (.tail _ (.head _))) (by show un + _ + 64 < cLine; simp only [cLine]; omega) (by decide +kernel) (by decide +kernel) ?_
  k_steps
  refine eq_pair (News.get (by k_asm) (.tail _ (.tail _ h2))) (News.get (by k_asm) (.tail _ (.tail _ h2'))) (News.get (by k_asm) (.head _)) (News.get (by k_asm) (.tail _ (.head _))) (by show un + _ + 64 < cLine; simp only [cLine]; omega) (by decide +kernel) (by decide +kernel) ?_
  k_steps
  exact post _ _ (by k_asm) (cb_drop (by assumption) fun p hp => .tail _ (.tail _ hp))
end Mine
end
section
open PySem PySem.W PyProof.Rows PySem.Calls
set_option Elab.async false
set_option maxRecDepth 100000
set_option maxHeartbeats 2000000
namespace Mine
local macro_rules | `(tactic| k_room) => `(tactic| ((try simp only [depth_mark, depth_under_make, depth_under_kw, depth_in1, depth_deeper] at *); (try dsimp only [top1] at *); (simp only [recursionLimit] at *); omega))
local macro_rules | `(tactic| walk_at "subscriptTail") => `(tactic| (k_here; (with_reducible show wpAny _ _ (subscriptTail _ _ (Value.ref _) (Value.int _ _)) _ _ _); k_dflt (refine' item_at ?k1 ?k2 ?_; (case k1 => exact News.isList (by k_asm) (by k_mem)); (case k2 => first | with_reducible assumption | exact at0 | exact at1); k_whole)))
local macro_rules | `(tactic| walk_at "call builtin:len") => `(tactic| (k_here; (with_reducible show wpAny _ _ (call (Value.builtin "len") [Value.ref _]) _ _ _); k_dflt (refine' call_len_list ?k1 ?k2 ?_; (case k1 => exact News.isList (by k_asm) (by k_mem)); (case k2 => omega); k_whole)))
theorem right_index {w : World} {nw : List (Addr × Obj)} {g1 g2 sh : Addr} {t1 t2 : Nat} {svs : Array Value} {c : Nat} {k n : Int} {tk tn : Tok} (h1 : (g1, listOf #[.str "index" t1, .none] 0) ∈ nw) (h2 : (g2, listOf #[.str "index" t2, .none] 0) ∈ nw)
    (h3 : (sh, listOf svs c) ∈ nw) (hs : svs.size ≤ 4) (h4 : (svs.size : Int) ≤ n) (h5 : k = 4) : Gives w 3 nw 116 [.ref g1, .ref g2, .ref sh, .int k tk, .int n tn] (.bool true) := by
  unfold Gives
  w_top off
  k_fill
  intro dp un gd cn cs a ccd outer A₀ base h₀ L m s Q E p loose mean mg mb nw' B F X N T hk hd hu hn post
  replace h1 := hn _ h1
  replace h2 := hn _ h2
  replace h3 := hn _ h3
  refine wpAny_call ?_
  k_dflt cell_enter
  k_steps
  all_goals try (exfalso; omega)
  all_goals (first | exact post _ _ (by k_asm) (by k_asm) | exact post _ _ (by k_asm) (cb_drop (by assumption) fun p hp => .tail _ hp))
end Mine
end
section
open PySem PySem.W PyProof.Rows PySem.Calls PySem.SeqAt
set_option Elab.async false
set_option maxRecDepth 100000
set_option maxHeartbeats 2000000
namespace Mine
abbrev sK (w : World) := PySem.strKind PySem.Challenge.rw_kn0109_06.row.prog w
/-- what `_law_middle` gives at `k`, `n` -/
inductive Mid (w : World) (nw : List (Addr × Obj)) (k n : Int) : Value → Prop
  | int (t : Tok) (h : k = 0) : Mid w nw k n (.int n t)
  | str (t : Tok) (h : k = 1) : Mid w nw k n (.str ("m" ++ Str.ofString (toString n)) t)
  | none (h : k = 2) : Mid w nw k n .none
  | tup (a l : Addr) (t : Tok) (h : k = 3) (h1 : (a, tupOf #[.ref l]) ∈ nw) (h2 : (l, listOf #[.int n t] 0) ∈ nw) : Mid w nw k n (.ref a)
  | lst (a : Addr) (h : k = 4) (h1 : (a, listOf #[] 0) ∈ nw) : Mid w nw k n (.ref a)
  | fault (a l : Addr) (o : Obj) (t t1 t2 : Tok) (h : k = 5) (h1 : (a, o) ∈ nw) (h2 : (l, listOf #[.int n t] 0) ∈ nw)
      (h3 : Obj.IsDictOf (sK w) o [("faultString", .ref l), ("more", .int 0 t1), ("faultCode", .str ("c" ++ Str.ofString (toString n)) t2)]) (h4 : (a == sysModules) = false) : Mid w nw k n (.ref a)
  | six (a : Addr) (o : Obj) (t1 t2 : Tok) (h : k = 6) (h1 : (a, o) ∈ nw) (h2 : (a == sysModules) = false) (h3 : Obj.IsDictOf (sK w) o [("faultString", .str "s" t1), ("code", .int n t2)]) : Mid w nw k n (.ref a)
  | seven (a : Addr) (o : Obj) (t1 t2 : Tok) (h : k = 7) (h1 : (a, o) ∈ nw) (h2 : (a == sysModules) = false) (h3 : Obj.IsDictOf (sK w) o [("faultCode", .int n t1), ("string", .str "s" t2)]) : Mid w nw k n (.ref a)
  | empty (a : Addr) (o : Obj) (h : k = 8) (h0 : n.fmod 2 = 0) (h1 : (a, o) ∈ nw) (h2 : (a == sysModules) = false) (h3 : Obj.IsDictOf (sK w) o []) : Mid w nw k n (.ref a)
  | eight (a : Addr) (o : Obj) (t1 t2 : Tok) (h : k = 8) (h0 : n.fmod 2 ≠ 0) (h1 : (a, o) ∈ nw) (h2 : (a == sysModules) = false) (h3 : Obj.IsDictOf (sK w) o [("string", .str "s" t1), ("code", .int n t2)]) : Mid w nw k n (.ref a)
local macro_rules | `(tactic| k_room) => `(tactic| ((try simp only [depth_mark, depth_under_make, depth_under_kw, depth_in1, depth_deeper] at *); (try dsimp only [top1] at *); (simp only [recursionLimit] at *); omega))
def GivesMid (w : World) (k n : Int) : Prop := ∀ (tk tn : Tok) (dp un : Nat) (gd : Option (List Code)) (cn : Str) (cs : Scope) (a : Addr) (ccd : Value) (outer : List Env) (A₀ : Around) (base h₀ : Heap) (L : Addr) (m : Str → Option Value) (s : Shared) (Q E : Value → Shared → Prop)
    (p : Program) (loose : List Str) (mean : ExcName → Option Value) (mg mb : Str → Option Value) (nw' : List (Addr × Obj)),
    Below A₀ base outer h₀ → Fr h₀ L s.heap m → (hdx.heap_39 w.params).In h₀ → News h₀ L s.heap nw' → Top p loose mean mg mb h₀ → cs.kind = .function → dp + 3 ≤ 340 → un + 24 ≤ 80 →
    (∀ h' tk' v ex, Mid w ex k n v → Fr h₀ L h' m → News h₀ L h' (ex ++ nw') → (∀ q ∈ ex, ∀ q' ∈ nw', q'.1 < q.1) → Q v { s with heap := h', toks := tk' }) →
    wpAny (model PySem.Challenge.rw_kn0109_06.row.prog w) (top1 dp un gd (envOf cn cs L a ccd) outer) (call (.ref 88) [.int k tk, .int n tn]) Q E s
theorem lt_nil {nw' : List (Addr × Obj)} : ∀ q ∈ ([] : List (Addr × Obj)), ∀ q' ∈ nw', q'.1 < q.1 := fun _ h => nomatch h
theorem lt_one {nw' : List (Addr × Obj)} {a : Addr} {o : Obj} (h : ∀ p ∈ nw', p.1 < a) : ∀ q ∈ [(a, o)], ∀ q' ∈ nw', q'.1 < q.1 := fun q hq q' hq' => by
  rw [List.mem_singleton.mp hq]; exact h q' hq'
theorem lt_two {nw' : List (Addr × Obj)} {a b : Addr} {o o' : Obj} (h' : b < a ∧ AllLt a nw') (h : ∀ p ∈ nw', p.1 < b) : ∀ q ∈ [(a, o), (b, o')], ∀ q' ∈ nw', q'.1 < q.1 := fun q hq q' hq' => by
  rcases List.mem_cons.mp hq with rfl | hq
  · exact Nat.lt_trans (h q' hq') h'.1
  · exact lt_one h q hq q' hq'
theorem middle_any {w : World} {k n : Int} (hn0 : 0 ≤ n) (hn1 : n < 1000) (hk0 : 0 ≤ k) (hk1 : k < 9) : GivesMid w k n := by
  unfold GivesMid
  w_top off
  k_fill
  intro tk tn dp un gd cn cs a ccd outer A₀ base h₀ L m s Q E p loose mean mg mb nw' B F X N T hk hd hu post
  refine wpAny_call ?_
  k_dflt cell_enter
  k_steps
  · exact post _ _ _ [] (.int _ (by omega)) (by k_asm) (by k_asm) (by first | exact lt_nil | exact lt_one (by assumption) | exact lt_two (by assumption) (by assumption))
  · exact post _ _ _ [] (.str _ (by omega)) (by k_asm) (by k_asm) (by first | exact lt_nil | exact lt_one (by assumption) | exact lt_two (by assumption) (by assumption))
  · exact post _ _ _ [] (.none (by omega)) (by k_asm) (by k_asm) (by first | exact lt_nil | exact lt_one (by assumption) | exact lt_two (by assumption) (by assumption))
  · exact post _ _ _ [_, _] (.tup _ _ _ (by omega) (.head _) (.tail _ (.head _))) (by k_asm) (by k_asm) (by first | exact lt_nil | exact lt_one (by assumption) | exact lt_two (by assumption) (by assumption))
  · exact post _ _ _ [_] (.lst _ (by omega) (.head _)) (by k_asm) (by k_asm) (by first | exact lt_nil | exact lt_one (by assumption) | exact lt_two (by assumption) (by assumption))
  · exact post _ _ _ [_, _] (.fault _ _ _ _ _ _ (by omega) (.tail _ (.head _)) (.head _) (by assumption) (by assumption)) (by k_asm) (by k_asm) (by first | exact lt_nil | exact lt_one (by assumption) | exact lt_two (by assumption) (by assumption))
  · exact post _ _ _ [_] (.six _ _ _ _ (by omega) (.head _) (by assumption) (by assumption)) (by k_asm) (by k_asm) (by first | exact lt_nil | exact lt_one (by assumption) | exact lt_two (by assumption) (by assumption))
  · exact post _ _ _ [_] (.seven _ _ _ _ (by omega) (.head _) (by assumption) (by assumption)) (by k_asm) (by k_asm) (by first | exact lt_nil | exact lt_one (by assumption) | exact lt_two (by assumption) (by assumption))
  · exact post _ _ _ [_] (.empty _ _ (by omega) (by assumption) (.head _) (by assumption) (by assumption)) (by k_asm) (by k_asm) (by first | exact lt_nil | exact lt_one (by assumption) | exact lt_two (by assumption) (by assumption))
  · exact post _ _ _ [_] (.eight _ _ _ _ (by omega) (by assumption) (.head _) (by assumption) (by assumption)) (by k_asm) (by k_asm) (by first | exact lt_nil | exact lt_one (by assumption) | exact lt_two (by assumption) (by assumption))
end Mine
end
section
open PySem PySem.W PyProof.Rows PySem.Calls PySem.SeqAt
set_option Elab.async false
set_option maxRecDepth 100000
set_option maxHeartbeats 4000000
namespace Mine
theorem Mid.mono {w : World} {nw nw2 : List (Addr × Obj)} {k n : Int} {v : Value} (M : Mid w nw k n v) (h : ∀ q ∈ nw, q ∈ nw2) : Mid w nw2 k n v := by
  cases M with
  | int t e => exact .int t e
  | str t e => exact .str t e
  | none e => exact .none e
  | tup a l t e h1 h2 => exact .tup a l t e (h _ h1) (h _ h2)
  | lst a e h1 => exact .lst a e (h _ h1)
  | fault a l o t t1 t2 e h1 h2 h3 h4 => exact .fault a l o t t1 t2 e (h _ h1) (h _ h2) h3 h4
  | six a o t1 t2 e h1 h2 h3 => exact .six a o t1 t2 e (h _ h1) h2 h3
  | seven a o t1 t2 e h1 h2 h3 => exact .seven a o t1 t2 e (h _ h1) h2 h3
  | empty a o e h0 h1 h2 h3 => exact .empty a o e h0 (h _ h1) h2 h3
  | eight a o t1 t2 e h0 h1 h2 h3 => exact .eight a o t1 t2 e h0 (h _ h1) h2 h3
/-- `j` lists around `v`: the outermost thing, and the row of all of them -/
inductive Tower (nw : List (Addr × Obj)) (v : Value) : Nat → Value → List Value → Prop
  | zero : Tower nw v 0 v [v]
  | succ {j : Nat} {th : Value} {vs : List Value} (r : Addr) (tb : Tok) (T : Tower nw v j th vs) (h : (r, listOf (th :: List.replicate j (.str "behind" tb)).toArray 0) ∈ nw) : Tower nw v (j + 1) (.ref r) (vs ++ [.ref r])
theorem Tower.mono {nw nw2 : List (Addr × Obj)} {v th : Value} {j : Nat} {vs : List Value} (T : Tower nw v j th vs) (h : ∀ q ∈ nw, q ∈ nw2) : Tower nw2 v j th vs := by
  induction T with
  | zero => exact .zero
  | succ r tb _ hm ih => exact .succ r tb ih (h _ hm)
def GivesShells (w : World) (x : Int) (d : Nat) : Prop := ∀ (tx : Tok) (dp un : Nat) (gd : Option (List Code)) (cn : Str) (cs : Scope) (a : Addr) (ccd : Value) (outer : List Env) (A₀ : Around) (base h₀ : Heap) (L : Addr) (m : Str → Option Value) (s : Shared) (Q E : Value → Shared → Prop)
    (p : Program) (loose : List Str) (mean : ExcName → Option Value) (mg mb : Str → Option Value) (nw' : List (Addr × Obj)),
    Below A₀ base outer h₀ → Fr h₀ L s.heap m → (hdx.heap_39 w.params).In h₀ → News h₀ L s.heap nw' → Top p loose mean mg mb h₀ → cs.kind = .function → dp + 4 ≤ 340 → un + 32 ≤ 80 →
    (∀ h' tk' sh ex v th vs c, Mid w ex (Int.fmod x 9) (Int.fmod (Int.fdiv x 36) 1000) v → Tower ex v d th vs → (sh, listOf vs.toArray c) ∈ ex → Fr h₀ L h' m → News h₀ L h' (ex ++ nw') → (∀ q ∈ ex, ∀ q' ∈ nw', q'.1 < q.1) → Q (.ref sh) { s with heap := h', toks := tk' }) →
    wpAny (model PySem.Challenge.rw_kn0109_06.row.prog w) (top1 dp un gd (envOf cn cs L a ccd) outer) (call (.ref 95) [.int x tx]) Q E s
theorem off_cons {a I : Addr} {o : Obj} {r : List (Addr × Obj)} (h : I < a) (hr : ∀ p ∈ r, p.1 ≠ I) : ∀ p ∈ (a, o) :: r, p.1 ≠ I := fun p hp => by
  rcases List.mem_cons.mp hp with rfl | hp
  · exact Nat.ne_of_gt h
  · exact hr p hp
theorem allLt_mem {I : Addr} : ∀ {r : List (Addr × Obj)}, AllLt I r → ∀ p ∈ r, p.1 < I
  | [], _, _, h => nomatch h
  | _ :: _, h, p, hp => by
    rcases List.mem_cons.mp hp with rfl | hp
    · exact h.1
    · exact allLt_mem h.2 p hp
theorem off_base {a I : Addr} {o : Obj} {r : List (Addr × Obj)} (hI : a < I ∧ ∀ p ∈ r, p.1 < I) : ∀ p ∈ (a, o) :: r, p.1 ≠ I := fun p hp => by
  rcases List.mem_cons.mp hp with rfl | hp
  · exact Nat.ne_of_lt hI.1
  · exact Nat.ne_of_lt (hI.2 p hp)
theorem unr5 {h₀ : Heap} {L I : Addr} {it : Obj} {R : (Str → Option Value) → List (Addr × Obj) → Prop} {s₁ : Shared} {h' : Heap} {tk : Nat} {m' : Str → Option Value} {D a b c : Addr × Obj} {rest : List (Addr × Obj)} (F : Fr h₀ L h' m') (N : News h₀ L h' (D :: a :: b :: c :: (I, it) :: rest))
    (off : ∀ p ∈ D :: rest, p.1 ≠ I) (r : R m' (D :: rest)) : UnrEnd h₀ L s₁ I it R { s₁ with heap := h', toks := tk } :=
  UnrEnd.intro F N (D :: rest) (fun p hp => by
    rcases List.mem_cons.mp hp with rfl | hp
    · exact .tail _ (.tail _ (.tail _ (.tail _ (.head _))))
    · rcases List.mem_cons.mp hp with rfl | hp
      · exact .head _
      · exact .tail _ (.tail _ (.tail _ (.tail _ (.tail _ hp))))) off r
theorem fresh_cons {nw : List (Addr × Obj)} {a : Addr} {o : Obj} {r ex : List (Addr × Obj)} (h : ∀ p ∈ ex ++ nw, p.1 < a) (hr : ∀ q ∈ r, ∀ q' ∈ nw, q'.1 < q.1) : ∀ q ∈ (a, o) :: r, ∀ q' ∈ nw, q'.1 < q.1 := fun q hq q' hq' => by
  rcases List.mem_cons.mp hq with rfl | hq
  · exact h q' (List.mem_append_right _ hq')
  · exact hr q hq q' hq'
section
variable {prog : Program} {w : World} {A : Around} {E : Value → Shared → Prop} {s : Shared} {h₀ : Heap} {L : Addr} {m : Str → Option Value} {news : List (Addr × Obj)} {l b : Addr} {v t : Value} {x : Int} {u : Tok} {n n' i : Nat} {Q : Value → Shared → Prop}
theorem flat_one (v : Value) : ∀ i : Nat, (List.replicate i [v]).flatten = List.replicate i v
  | 0 => rfl
  | i + 1 => by rw [List.replicate_succ, List.flatten_cons, flat_one v i]; rfl
theorem mulN (F : Fr h₀ L s.heap m) (N : News h₀ L s.heap news) (hm : (l, listOf #[v] n) ∈ news) (hx : x = (i : Int)) (hi : i ≤ 8)
    (h : ∀ D h', Fr h₀ L h' m → News h₀ L h' ((D, listOf (List.replicate i v).toArray 0) :: news) → (∀ p ∈ news, p.1 < D) → Q (.ref D) { s with heap := h' }) : wpAny (model prog w) A (binaryOp .Mult (.ref l) (.int x u)) Q E s :=
  KMa.mul F N (N.isList hm) (by omega) (by omega) (by subst hx; simp; omega) (by subst hx; exact flat_one v i) h
theorem addN (F : Fr h₀ L s.heap m) (N : News h₀ L s.heap news) (hm : (l, listOf #[t] n) ∈ news) (hb : (b, listOf (List.replicate i v).toArray n') ∈ news) (hi : i ≤ 8)
    (h : ∀ D h', Fr h₀ L h' m → News h₀ L h' ((D, listOf (t :: List.replicate i v).toArray 0) :: news) → (∀ p ∈ news, p.1 < D) → Q (.ref D) { s with heap := h' }) : wpAny (model prog w) A (binaryOp .Add (.ref l) (.ref b)) Q E s :=
  kmk_add_lit F N (N.isList hm) (N.isList hb) (by simp) h (by simp [sizeLine]; omega)
end
local macro_rules | `(tactic| k_room) => `(tactic| ((try simp only [depth_mark, depth_under_make, depth_under_kw, depth_in1, depth_deeper] at *); (try dsimp only [top1] at *); (simp only [recursionLimit] at *); omega))
local macro_rules | `(tactic| walk_at "binaryOp Mod int int") => `(tactic| (k_here; (with_reducible show wpAny _ _ (binaryOp Operator.Mod (Value.int _ _) (Value.int 4 _)) _ _ _); (with_reducible rename Int.fmod _ 4 = _ => h4); (with_reducible refine PyProof.Rows.mod_int (by decide) ?_); (simp only [h4])))
local macro_rules | `(tactic| walk_at "call ref") => `(tactic| (k_here; (with_reducible show wpAny _ _ (call (Value.ref 88) _ _) _ _ _); (with_reducible rename GivesMid _ _ _ => hG); k_dflt (refine' hG _ _ _ _ _ _ _ _ _ _ _ _ _ _ _ _ _ _ _ _ _ _ _ _ ?B ?F ?X ?N ?T ?hk ?hd ?hu ?_; (case B => k_asm); (case F => k_asm); (case X => k_asm); (case N => k_asm); (case T => k_asm); (case hk => exact rfl); (case hd => ((try dsimp only [top1, Around.in1]); omega)); (case hu => ((try dsimp only [top1, Around.in1]); omega))); (try dsimp only); intro h' tk' v' ex' M' F' N' l1))
local macro_rules | `(tactic| walk_at "binaryOp Mult ref int") => `(tactic| (k_here; (with_reducible show wpAny _ _ (binaryOp Operator.Mult (Value.ref _) (Value.int _ _)) _ _ _); k_dflt (first
   | (refine' mulN (i := 0) ?F ?N ?hm ?hx ?hi ?_; (case hx => exact rfl); (case F => k_asm); (case N => k_asm); (case hm => (repeat (first | with_reducible assumption | with_reducible exact List.mem_cons_self .. | with_reducible refine List.mem_cons_of_mem _ ?_))); (case hi => decide); k_whole)
   | (refine' mulN (i := 1) ?F ?N ?hm ?hx ?hi ?_; (case hx => exact rfl); (case F => k_asm); (case N => k_asm); (case hm => (repeat (first | with_reducible assumption | with_reducible exact List.mem_cons_self .. | with_reducible refine List.mem_cons_of_mem _ ?_))); (case hi => decide); k_whole)
   | (refine' mulN (i := 2) ?F ?N ?hm ?hx ?hi ?_; (case hx => exact rfl); (case F => k_asm); (case N => k_asm); (case hm => (repeat (first | with_reducible assumption | with_reducible exact List.mem_cons_self .. | with_reducible refine List.mem_cons_of_mem _ ?_))); (case hi => decide); k_whole)); intro D' h' F' N' l1; (try k_lt l1)))
local macro_rules | `(tactic| walk_at "binaryOp Add ref ref") => `(tactic| (k_here; (with_reducible show wpAny _ _ (binaryOp _ (Value.ref _) (Value.ref _)) _ _ _); k_dflt (refine' addN ?F ?N ?hm ?hb ?hi ?_; (case F => k_asm); (case N => k_asm); (case hm => (repeat (first | with_reducible assumption | with_reducible exact List.mem_cons_self .. | with_reducible refine List.mem_cons_of_mem _ ?_))); (case hb => (repeat (first | with_reducible assumption | with_reducible exact List.mem_cons_self .. | with_reducible refine List.mem_cons_of_mem _ ?_))); (case hi => decide); k_whole); intro D' h' F' N' l1; (try k_lt l1)))
theorem shells_0 {w : World} {x : Int} (h4 : Int.fmod (Int.fdiv x 9) 4 = 0) (hG : GivesMid w (Int.fmod x 9) (Int.fmod (Int.fdiv x 36) 1000)) : GivesShells w x 0 := by
  unfold GivesShells
  w_top off
  k_fill
  intro tx dp un gd cn cs a ccd outer A₀ base h₀ L m s Q E p loose mean mg mb nw' B F X N T hk hd hu post
  refine wpAny_call ?_
  k_dflt cell_enter
  k_steps
  rename ∀ (p : Addr × Obj), p ∈ _ ++ _ → _ < _ => hsh
  rename ∀ q ∈ _, ∀ q' ∈ _, _ < _ => hex
  rename Mid _ _ _ _ _ => hM
  rename List (Addr × Obj) => ex9
  exact post _ _ _ (_ :: ex9) _ _ _ _ (hM.mono (fun q hq => .tail _ (hq))) .zero (.head _) (by k_asm) (by k_asm) (fresh_cons hsh hex)
theorem shells_1 {w : World} {x : Int} (h4 : Int.fmod (Int.fdiv x 9) 4 = 1) (hG : GivesMid w (Int.fmod x 9) (Int.fmod (Int.fdiv x 36) 1000)) : GivesShells w x 1 := by
  unfold GivesShells
  w_top off
  k_fill
  intro tx dp un gd cn cs a ccd outer A₀ base h₀ L m s Q E p loose mean mg mb nw' B F X N T hk hd hu post
  refine wpAny_call ?_
  k_dflt cell_enter
  k_steps
  rename _ < _ ∧ AllLt _ _ => hI
  rename _ < _ ∧ _ < _ ∧ _ < _ ∧ _ < _ ∧ _ < _ ∧  AllLt _ _ => hD1
  refine unr5 (by k_asm) (by k_asm) (off_cons hD1.2.2.2.1 (off_base ⟨hI.1, allLt_mem hI.2⟩)) ?_
  k_steps
  rename ∀ (p : Addr × Obj), p ∈ _ ++ _ → _ < _ => hsh
  rename ∀ q ∈ _, ∀ q' ∈ _, _ < _ => hex
  rename Mid _ _ _ _ _ => hM
  rename List (Addr × Obj) => ex9
  exact post _ _ _ (_ :: _ :: ex9) _ _ _ _ (hM.mono (fun q hq => .tail _ (.tail _ (hq)))) (.succ _ _ .zero (.head _)) (.tail _ (.head _)) (by k_asm) (by k_asm) (fresh_cons (allLt_mem hD1.2.2.2.2.2) (fresh_cons hsh hex))
theorem shells_2 {w : World} {x : Int} (h4 : Int.fmod (Int.fdiv x 9) 4 = 2) (hG : GivesMid w (Int.fmod x 9) (Int.fmod (Int.fdiv x 36) 1000)) : GivesShells w x 2 := by
  unfold GivesShells
  w_top off
  k_fill
  intro tx dp un gd cn cs a ccd outer A₀ base h₀ L m s Q E p loose mean mg mb nw' B F X N T hk hd hu post
  refine wpAny_call ?_
  k_dflt cell_enter
  k_steps
  rename _ < _ ∧ AllLt _ _ => hI
  rename _ < _ ∧ _ < _ ∧ _ < _ ∧ _ < _ ∧ _ < _ ∧  AllLt _ _ => hD1
  refine unr5 (by k_asm) (by k_asm) (off_cons hD1.2.2.2.1 (off_base ⟨hI.1, allLt_mem hI.2⟩)) ?_
  k_steps
  rename _ < _ ∧ _ < _ ∧ _ < _ ∧ _ < _ ∧ _ < _ ∧ _ < _ ∧  AllLt _ _ => hD2
  refine unr5 (by k_asm) (by k_asm) (off_cons hD2.2.2.2.1 (off_cons hD1.2.2.2.1 (off_base ⟨hI.1, allLt_mem hI.2⟩))) ?_
  k_steps
  rename ∀ (p : Addr × Obj), p ∈ _ ++ _ → _ < _ => hsh
  rename ∀ q ∈ _, ∀ q' ∈ _, _ < _ => hex
  rename Mid _ _ _ _ _ => hM
  rename List (Addr × Obj) => ex9
  exact post _ _ _ (_ :: _ :: _ :: ex9) _ _ _ _ (hM.mono (fun q hq => .tail _ (.tail _ (.tail _ (hq))))) (.succ _ _ (.succ _ _ .zero (.tail _ (.head _))) (.head _)) (.tail _ (.tail _ (.head _))) (by k_asm) (by k_asm) (fresh_cons (allLt_mem hD2.2.2.2.2.2.2) (fresh_cons (allLt_mem hD1.2.2.2.2.2) (fresh_cons hsh hex)))
theorem shells_3 {w : World} {x : Int} (h4 : Int.fmod (Int.fdiv x 9) 4 = 3) (hG : GivesMid w (Int.fmod x 9) (Int.fmod (Int.fdiv x 36) 1000)) : GivesShells w x 3 := by
  unfold GivesShells
  w_top off
  k_fill
  intro tx dp un gd cn cs a ccd outer A₀ base h₀ L m s Q E p loose mean mg mb nw' B F X N T hk hd hu post
  refine wpAny_call ?_
  k_dflt cell_enter
  k_steps
  rename _ < _ ∧ AllLt _ _ => hI
  rename _ < _ ∧ _ < _ ∧ _ < _ ∧ _ < _ ∧ _ < _ ∧  AllLt _ _ => hD1
  refine unr5 (by k_asm) (by k_asm) (off_cons hD1.2.2.2.1 (off_base ⟨hI.1, allLt_mem hI.2⟩)) ?_
  k_steps
  rename _ < _ ∧ _ < _ ∧ _ < _ ∧ _ < _ ∧ _ < _ ∧ _ < _ ∧  AllLt _ _ => hD2
  refine unr5 (by k_asm) (by k_asm) (off_cons hD2.2.2.2.1 (off_cons hD1.2.2.2.1 (off_base ⟨hI.1, allLt_mem hI.2⟩))) ?_
  k_steps
  rename _ < _ ∧ _ < _ ∧ _ < _ ∧ _ < _ ∧ _ < _ ∧ _ < _ ∧ _ < _ ∧  AllLt _ _ => hD3
  refine unr5 (by k_asm) (by k_asm) (off_cons hD3.2.2.2.1 (off_cons hD2.2.2.2.1 (off_cons hD1.2.2.2.1 (off_base ⟨hI.1, allLt_mem hI.2⟩)))) ?_
  k_steps
  rename ∀ (p : Addr × Obj), p ∈ _ ++ _ → _ < _ => hsh
  rename ∀ q ∈ _, ∀ q' ∈ _, _ < _ => hex
  rename Mid _ _ _ _ _ => hM
  rename List (Addr × Obj) => ex9
  exact post _ _ _ (_ :: _ :: _ :: _ :: ex9) _ _ _ _ (hM.mono (fun q hq => .tail _ (.tail _ (.tail _ (.tail _ (hq)))))) (.succ _ _ (.succ _ _ (.succ _ _ .zero (.tail _ (.tail _ (.head _)))) (.tail _ (.head _))) (.head _)) (.tail _ (.tail _ (.tail _ (.head _)))) (by k_asm) (by k_asm) (fresh_cons (allLt_mem hD3.2.2.2.2.2.2.2) (fresh_cons (allLt_mem hD2.2.2.2.2.2.2) (fresh_cons (allLt_mem hD1.2.2.2.2.2) (fresh_cons hsh hex))))
end Mine
end
section
open PySem PySem.W PyProof.Rows PySem.Calls PySem.SeqAt
set_option Elab.async false
set_option maxRecDepth 100000
set_option maxHeartbeats 2000000
namespace Mine
def findS (x : Str) : List (Str × Value) → Option Value
  | [] => none
  | (k, v) :: r => if k == x then some v else findS x r
theorem pairs_shape {w : World} : ∀ {es : List DictEntry} {kvs : List (Str × Value)}, Pairs (sK w) es kvs → (∀ e ∈ es, ∃ k, (sK w).is k e.key = true ∧ e.hash = (sK w).hash k) →
    KeysLit w.params es ∧ ∀ x, getL x es = some (findS x kvs)
  | _, _, .nil, _ => ⟨trivial, fun _ => rfl⟩
  | _, _, .cons (e := e) (kv := kv) (es := es) (kvs := kvs) h1 h2 h3, hk => by
    obtain ⟨a, b⟩ := pairs_shape h3 fun e he => hk e (List.mem_cons_of_mem _ he)
    obtain ⟨k, v⟩ := kv
    obtain ⟨t, ht⟩ := Value.isStrOf_shape h1
    obtain ⟨k', hk1, hk2⟩ := hk e (List.mem_cons_self ..)
    have ek : k' = k := (sK w).inj _ _ _ hk1 h1
    subst ek
    refine ⟨⟨⟨k', t, ht, hk2⟩, a⟩, fun x => ?_⟩
    have hb := b x
    obtain ⟨hash, key, val⟩ := e
    simp only at ht h2
    subst ht h2
    have e1 : (Value.str k' t).isStr x = (k' == x) := rfl
    cases hkx : (k' == x) with
    | true => simp only [getL, findS, List.find?_cons, e1, hkx, if_true]
    | false =>
      have e2 : DictEntry.refKey ⟨hash, Value.str k' t, val⟩ = false := rfl
      simp only [getL, findS, List.find?_cons, List.any_cons, e1, e2, hkx, Bool.false_or] at hb ⊢
      simpa using hb
theorem dict_shape {w : World} {o : Obj} {kvs : List (Str × Value)} (h : Obj.IsDictOf (sK w) o kvs) : ∃ es n, o = dictOf es n ∧ KeysLit w.params es ∧ ∀ x, getL x es = some (findS x kvs) := by
  obtain ⟨es, n, ⟨hc, hd, hs⟩, hdat, hk, hp, _⟩ := h
  obtain ⟨a, b⟩ := pairs_shape hp fun e he => hk e (by simpa using he)
  refine ⟨es.toList, n, ?_, a, b⟩
  obtain ⟨c, d, dt, sl⟩ := o
  simp only at hc hd hs hdat
  subst hc hd hs hdat
  rfl
end Mine
end
section
open PySem PySem.W PyProof.Rows PySem.Calls PySem.SeqAt
set_option Elab.async false
set_option maxRecDepth 100000
set_option maxHeartbeats 2000000
namespace Mine
inductive XFor (w : World) (nw : List (Addr × Obj)) (k : Int) (v : Value) : XK → Prop
  | value (h : k < 4) : XFor w nw k v .value
  | index (h : k = 4) : XFor w nw k v .index
  | fault (d l : Addr) (es : List DictEntry) (n : Nat) (c : Str) (tc : Tok) (h : k = 5) (hv : v = .ref d) (hm : (d, dictOf es n) ∈ nw) (hk : KeysLit w.params es) (h1 : getL "faultCode" es = some (some (.str c tc)))
      (h2 : getL "faultString" es = some (some (.ref l))) : XFor w nw k v (.fault (.str c tc) (.ref l))
  | key68 (h : 6 ≤ k) (h' : k ≠ 7) : XFor w nw k v (.key "faultCode")
  | key7 (h : k = 7) : XFor w nw k v (.key "faultString")
abbrev resDict (w : World) (tk : Tok) (rr : Addr) : Obj := dictOf [⟨PyData.keyHash w.params "results", .str "results" tk, .ref rr⟩] 1
theorem mid_step {w : World} {nw : List (Addr × Obj)} {k n : Int} {v : Value} {rr it d : Addr} {tk : Tok} (M : Mid w nw k n v) (h1 : (it, instObj 77 d) ∈ nw) (h2 : (d, resDict w tk rr) ∈ nw) :
    ∃ xk, XFor w nw k v xk ∧ ∀ (i : Int) (D : Nat), Yields w nw (.ref rr) i D (.val v) → Yields w nw (.ref it) i (D + 1) (.exc xk) := by
  cases M with
  | int t e => exact ⟨_, .value (by omega), fun i D hY => step_int hY h1 h2⟩
  | str t e => exact ⟨_, .value (by omega), fun i D hY => step_str hY h1 h2⟩
  | none e => exact ⟨_, .value (by omega), fun i D hY => step_none hY h1 h2⟩
  | tup a l t e m1 m2 => exact ⟨_, .value (by omega), fun i D hY => step_tuple hY h1 h2 m1⟩
  | lst a e m1 => exact ⟨_, .index e, fun i D hY => step_empty hY h1 h2 m1⟩
  | fault a l o t t1 t2 e m1 m2 m3 =>
    obtain ⟨es, en, rfl, hk, hg⟩ := dict_shape m3
    have g1 := hg "faultCode"
    have g2 := hg "faultString"
    exact ⟨_, .fault a l es en _ t2 e rfl m1 hk g1 g2, fun i D hY => step_fault hY h1 h2 m1 hk g1 g2⟩
  | six a o t1 t2 e m1 m2 m3 =>
    obtain ⟨es, en, rfl, hk, hg⟩ := dict_shape m3
    exact ⟨_, .key68 (by omega) (by omega), fun i D hY => step_key1 hY h1 h2 m1 hk (hg "faultCode") m2⟩
  | seven a o t1 t2 e m1 m2 m3 =>
    obtain ⟨es, en, rfl, hk, hg⟩ := dict_shape m3
    exact ⟨_, .key7 e, fun i D hY => step_key2 hY h1 h2 m1 hk (hg "faultCode") (hg "faultString") m2⟩
  | empty a o e h0 m1 m2 m3 =>
    obtain ⟨es, en, rfl, hk, hg⟩ := dict_shape m3
    exact ⟨_, .key68 (by omega) (by omega), fun i D hY => step_key1 hY h1 h2 m1 hk (hg "faultCode") m2⟩
  | eight a o t1 t2 e h0 m1 m2 m3 =>
    obtain ⟨es, en, rfl, hk, hg⟩ := dict_shape m3
    exact ⟨_, .key68 (by omega) (by omega), fun i D hY => step_key1 hY h1 h2 m1 hk (hg "faultCode") m2⟩
/-- `r` is the `j`th iterator over `row` -/
inductive Chain (w : World) (nw : List (Addr × Obj)) (row : Addr) : Nat → Addr → Prop
  | row : Chain w nw row 0 row
  | it {j : Nat} {rr : Addr} (it d : Addr) (tk : Tok) (C : Chain w nw row j rr) (h1 : (it, instObj 77 d) ∈ nw) (h2 : (d, resDict w tk rr) ∈ nw) : Chain w nw row (j + 1) it
theorem Chain.mono {w : World} {nw nw2 : List (Addr × Obj)} {row r : Addr} {j : Nat} (C : Chain w nw row j r) (h : ∀ q ∈ nw, q ∈ nw2) : Chain w nw2 row j r := by
  induction C with
  | row => exact .row
  | it it d tk _ h1 h2 ih => exact .it it d tk ih (h _ h1) (h _ h2)
theorem Tower.at {nw : List (Addr × Obj)} {v x : Value} {d : Nat} {vs : List Value} (T : Tower nw v d x vs) : vs.length = d + 1 ∧ vs[d]? = some x ∧ vs[0]? = some v := by
  induction T with
  | zero => exact ⟨rfl, rfl, rfl⟩
  | succ r tb _ hm ih =>
    obtain ⟨a, b, c⟩ := ih
    refine ⟨by simp [a], by simp [a], ?_⟩
    rw [List.getElem?_append_left (by omega)]; exact c
inductive Lev (w : World) (nw : List (Addr × Obj)) (k : Int) (v : Value) (svs : List Value) (dd j : Nat) (r : Addr) (vs0 : Array Value) (th : Value) : Prop
  | val (x : Value) (pre suf : List Value) (d' : Nat) (h : j + d' = dd) (T : Tower nw v d' x pre) (e : svs = pre ++ suf) (hY : ∀ i : Int, At vs0 i th → Yields w nw (.ref r) i (j + 1) (.val x)) : Lev w nw k v svs dd j r vs0 th
  | exc (xk : XK) (h : dd < j) (hx : XFor w nw k v xk) (hY : ∀ i : Int, At vs0 i th → Yields w nw (.ref r) i (j + 1) (.exc xk)) : Lev w nw k v svs dd j r vs0 th
theorem level {w : World} {nw : List (Addr × Obj)} {row : Addr} {vs0 : Array Value} {c0 : Nat} {th v : Value} {dd : Nat} {svs : List Value} {k n : Int} (hr : (row, listOf vs0 c0) ∈ nw) (T : Tower nw v dd th svs) (M : Mid w nw k n v)
    {j : Nat} {r : Addr} (C : Chain w nw row j r) : Lev w nw k v svs dd j r vs0 th := by
  induction C with
  | row => exact .val th svs [] dd (by omega) T (by simp) (fun i hat => yields_list hr hat)
  | it it d tk C h1 h2 ih =>
    cases ih with
    | val x pre suf d' h T' e hY =>
      cases T' with
      | zero =>
        obtain ⟨xk, hx, hY'⟩ := mid_step M h1 h2
        exact .exc xk (by omega) hx fun i hat => hY' i _ (hY i hat)
      | succ r tb T'' hm =>
        refine .val _ _ _ _ (by omega) T'' (by rw [e, List.append_assoc]) (fun i hat => step_list (hY i hat) h1 h2 hm (.inl ⟨by decide, by decide, rfl⟩))
    | exc xk h hx hY => exact .exc xk (by omega) hx (fun i hat => step_exc (hY i hat) h1 h2)
theorem Gives.mono {w : World} {D : Nat} {nw nw2 : List (Addr × Obj)} {f : Addr} {args : List Value} {v : Value} (G : Gives w D nw f args v) (h : ∀ q ∈ nw, q ∈ nw2) : Gives w D nw2 f args v := by
  intro dp un gd cn cs a ccd outer A₀ base h₀ L m s Q E p loose mean mg mb nw' B F X N T hk hd hu hn post
  exact G dp un gd cn cs a ccd outer A₀ base h₀ L m s Q E p loose mean mg mb nw' B F X N T hk hd hu (fun q hq => hn q (h q hq)) post
theorem same_mid {w : World} {nw : List (Addr × Obj)} {k n : Int} {v : Value} (M : Mid w nw k n v) : Gives w 1 nw 102 [v, v] (.bool true) := by
  cases M with
  | int t e => exact same_int
  | str t e => exact same_str
  | none e => exact same_none
  | tup a l t e m1 m2 => exact same_tuple m1
  | lst a e m1 => exact same_list m1
  | fault a l o t t1 t2 e m1 m2 m3 => obtain ⟨es, en, rfl, _, _⟩ := dict_shape m3; exact same_dict m1
  | six a o t1 t2 e m1 m2 m3 => obtain ⟨es, en, rfl, _, _⟩ := dict_shape m3; exact same_dict m1
  | seven a o t1 t2 e m1 m2 m3 => obtain ⟨es, en, rfl, _, _⟩ := dict_shape m3; exact same_dict m1
  | empty a o e h0 m1 m2 m3 => obtain ⟨es, en, rfl, _, _⟩ := dict_shape m3; exact same_dict m1
  | eight a o t1 t2 e h0 m1 m2 m3 => obtain ⟨es, en, rfl, _, _⟩ := dict_shape m3; exact same_dict m1
theorem same_tower {w : World} {nw : List (Addr × Obj)} {k n : Int} {v x : Value} {d : Nat} {vs : List Value} (M : Mid w nw k n v) (T : Tower nw v d x vs) : Gives w 1 nw 102 [x, x] (.bool true) := by
  cases T with
  | zero => exact same_mid M
  | succ r tb _ hm => exact same_list hm
inductive LevO (w : World) (nw : List (Addr × Obj)) (k : Int) (v : Value) (svs : List Value) (j : Nat) : Out → Prop
  | given (x : Value) (hj : j < svs.length) (hx : At svs.toArray ((svs.toArray.size : Int) - 1 - (j : Int)) x) (hs : Gives w 1 nw 102 [x, x] (.bool true)) : LevO w nw k v svs j (.val x)
  | exc (xk : XK) (hj : svs.length ≤ j) (hx : XFor w nw k v xk) : LevO w nw k v svs j (.exc xk)
theorem lev_ask {w : World} {nw : List (Addr × Obj)} {k n : Int} {v th : Value} {svs : List Value} {dd j : Nat} {r : Addr} {vs0 : Array Value} (hj : j ≤ 10) (hd : dd ≤ 3) (T : Tower nw v dd th svs) (M : Mid w nw k n v)
    (h : Lev w nw k v svs dd j r vs0 th) : ∃ O, LevO w nw k v svs j O ∧ ∀ i : Int, At vs0 i th → Asks w nw (.ref r) i O := by
  cases h with
  | val x pre suf d' hd' T' e hY =>
    obtain ⟨a, b, _⟩ := T.at
    obtain ⟨a', b', _⟩ := T'.at
    refine ⟨.val x, .given x (by omega) (.inl ⟨?_, ?_, ?_⟩) (same_tower M T'), fun i hat => ask_val (by omega) (hY i hat)⟩
    · simp only [List.size_toArray]; omega
    · simp only [List.size_toArray]; omega
    · have e1 : ((svs.toArray.size : Int) - 1 - (j : Int)).toNat = d' := by simp only [List.size_toArray]; omega
      rw [e1, e]
      simp only [List.getElem?_toArray]
      rw [List.getElem?_append_left (by omega)]; exact b'
  | exc xk h hx hY =>
    obtain ⟨a, b, _⟩ := T.at
    refine ⟨.exc xk, .exc xk (by omega) hx, ?_⟩
    cases xk with
    | index => exact fun i hat => ask_index (by omega) (hY i hat)
    | value => exact fun i hat => ask_value (by omega) (hY i hat)
    | key k => exact fun i hat => ask_key (by omega) (hY i hat)
    | fault c s => exact fun i hat => ask_fault (by omega) (hY i hat)
theorem lev_right {w : World} {nw nw2 o1 o2 ex1 ex2 : List (Addr × Obj)} {k n : Int} {v : Value} {svs : List Value} {j : Nat} {O : Out} {l1 l2 sh : Addr} {c : Nat} {tk tn : Tok} (h : LevO w nw k v svs j O) (A1 : AskRes w o1 O l1 ex1) (A2 : AskRes w o2 O l2 ex2) (ho : ∀ q ∈ ex1, q ∈ o2)
    (hs : ∀ q ∈ nw, q ∈ nw2) (h1 : ∀ q ∈ ex1, q ∈ nw2) (h2 : ∀ q ∈ ex2, q ∈ nw2) (hsh : (sh, listOf svs.toArray c) ∈ nw2) (hl : svs.length ≤ 4) (hv : svs[0]? = some v) (hn : n = (j : Int)) :
    Gives w 3 nw2 116 [.ref l1, .ref l2, .ref sh, .int k tk, .int n tn] (.bool true) := by
  subst hn
  have hl' : svs.toArray.size ≤ 4 := by simpa using hl
  cases h with
  | given x hj hx hsame =>
    cases A1 with
    | val _ _ t1 =>
      cases A2 with
      | val _ _ t2 => exact right_given (h1 _ (.head _)) (h2 _ (.head _)) hsh hl' (by simpa using hj) hx (hsame.mono hs)
  | exc xk hj hx =>
    have hj' : (svs.toArray.size : Int) ≤ (j : Int) := by simp only [List.size_toArray]; omega
    cases hx with
    | value hk =>
      cases A1 with
      | value _ e1 u1 p1 q1 tb1 =>
        cases A2 with
        | value _ e2 u2 p2 q2 tb2 => exact right_value (h1 _ (.head _)) (h2 _ (.head _)) (h1 _ (.tail _ (.tail _ (.head _)))) (h2 _ (.tail _ (.tail _ (.head _)))) hsh hl' hj' hk
    | index hk =>
      cases A1 with
      | index _ t1 x1 =>
        cases A2 with
        | index _ t2 x2 => exact right_index (h1 _ (.head _)) (h2 _ (.head _)) hsh hl' hj' hk
    | key68 hk hk' =>
      cases A1 with
      | key _ _ e1 u1 p1 q1 tb1 =>
        cases A2 with
        | key _ _ e2 u2 p2 q2 tb2 => exact right_key68 (h1 _ (.head _)) (h2 _ (.head _)) (h1 _ (.tail _ (.tail _ (.head _)))) (h2 _ (.tail _ (.tail _ (.head _)))) hsh hl' hj' hk hk'
    | key7 hk =>
      cases A1 with
      | key _ _ e1 u1 p1 q1 tb1 =>
        cases A2 with
        | key _ _ e2 u2 p2 q2 tb2 => exact right_key7 (h1 _ (.head _)) (h2 _ (.head _)) (h1 _ (.tail _ (.tail _ (.head _)))) (h2 _ (.tail _ (.tail _ (.head _)))) hsh hl' hj' hk
    | fault d l es en cc tc hk hv' hm hkl g1 g2 =>
      subst hv'
      cases A1 with
      | fault _ _ _ e1 u1 dx1 p1 p2 p3 tb1 fr1 =>
        cases A2 with
        | fault _ _ _ e2 u2 dx2 q1 q2 q3 tb2 fr2 =>
          exact right_fault (h1 _ (.head _)) (h2 _ (.head _)) (h1 _ (.tail _ (.head _))) (h1 _ (.tail _ (.tail _ (.head _)))) (h1 _ (.tail _ (.tail _ (.tail _ (.head _)))))
            (h2 _ (.tail _ (.head _))) (h2 _ (.tail _ (.tail _ (.head _)))) (h2 _ (.tail _ (.tail _ (.tail _ (.head _))))) (fr2 _ (ho _ (.tail _ (.head _)))) hsh hl' hj' hk (.inl ⟨by decide, by decide, by simpa using hv⟩) (hs _ hm) hkl g1 g2
end Mine
end
section
open PySem PySem.W PyProof.Rows PySem.Calls PySem.SeqAt
set_option Elab.async false
set_option maxRecDepth 100000
set_option maxHeartbeats 1000000
namespace Mine
theorem compEnd_mono {h₀ : Heap} {L I C D : Addr} {m : Str → Option Value} {s₁ s₂ : Shared} {oI oC oD : Obj} {S : List (Addr × Obj) → Prop} {r r' : Value → List (Addr × Obj) → Prop} {y : Value} (hr : ∀ y n, r y n → r' y n)
    (h : LCg.CompEnd h₀ L m s₁ I oI C oC D oD S r y s₂) : LCg.CompEnd h₀ L m s₁ I oI C oC D oD S r' y s₂ := by
  obtain ⟨h', tk, nw, e, F, N, o, hS, hh⟩ := h
  exact ⟨h', tk, nw, e, F, N, o, hS, hr _ _ hh⟩
/-- a list comprehension by an invariant of the turns -/
theorem comp_rest {prog : Program} {w : World} {A : Around} {h₀ : Heap} {L : Addr} {m : Str → Option Value} {env : Env} {elt : PySem.Expr} {x : Str} {scope : Scope} {cl : List (Str × Addr)} {s : Shared} {S : List (Addr × Obj) → Prop} {P : Nat → Value → Prop}
    {Fin : List Value → List (Addr × Obj) → Prop} (n : Nat) (Inv : Nat → List Value → List (Addr × Obj) → Prop) (fin : ∀ ys news, Inv n ys news → Fin ys news)
    (turn : ∀ i ys news v I oI C oC D m₂ h tk (E' : Value → Shared → Prop), i < n → Inv i ys news → P i v → LCg.NsObj oC m₂ → m₂ x = some v → Fr h₀ L h m → News h₀ L h ((I, oI) :: (C, oC) :: (D, LCg.lst ys) :: news) → LCg.Off3 I C D news → ((@Ne Nat I C) ∧ (@Ne Nat I D) ∧ (@Ne Nat C D)) →
      wpAny (model prog w) A (eval elt (compEnvC scope cl C env)) (LCg.CompEnd h₀ L m { s with heap := h, toks := tk } I oI C oC D (LCg.lst ys) S (fun y news' => Inv (i + 1) (ys ++ [y]) news')) E' { s with heap := h, toks := tk }) :
    ∀ (k i : Nat) (ys : List Value) (news : List (Addr × Obj)), i + k = n → Inv i ys news → LCg.CompRest prog w A h₀ L m env elt x scope cl s S P Fin k i ys news
  | 0, i, ys, news, e, hI => .zero (fin ys news (by have : i = n := by omega
                                                    exact this ▸ hI))
  | k + 1, i, ys, news, e, hI => .succ fun v I oI C oC D m₂ h tk E' a b c d e' f g =>
      wpAny_mono (turn i ys news v I oI C oC D m₂ h tk E' (by omega) hI a b c d e' f g) (fun y s₂ z => compEnd_mono (fun y nn hy => comp_rest n Inv fin turn k (i + 1) _ _ (by omega) hy) z) fun _ _ z => z
theorem mem_three {α : Type} {a b c : α} {ex nw : List α} {p : α} (h : p ∈ a :: b :: c :: (ex ++ nw)) : p ∈ ex ++ (a :: b :: c :: nw) := by
  simp only [List.mem_cons, List.mem_append] at h ⊢
  rcases h with h | h | h | h | h <;> simp [h]
theorem off3_app {I C D : Addr} {oI oC oD : Obj} {ex nw : List (Addr × Obj)} (fr : ∀ q ∈ ex, ∀ q' ∈ (I, oI) :: (C, oC) :: (D, oD) :: nw, q'.1 < q.1) (off : LCg.Off3 I C D nw) : LCg.Off3 I C D (ex ++ nw) :=
  LCg.Off3.of fun p hp => by
    rcases List.mem_append.mp hp with hp | hp
    · exact ⟨Nat.ne_of_gt (fr p hp (I, oI) (.head _)), Nat.ne_of_gt (fr p hp (C, oC) (.tail _ (.head _))), Nat.ne_of_gt (fr p hp (D, oD) (.tail _ (.tail _ (.head _))))⟩
    · exact off.mem p hp
/-- an invariant of a comprehension: its things so far stand in `R`, and the ledger has only grown -/
def CInv (nw9 : List (Addr × Obj)) (R : List (Addr × Obj) → Nat → Value → Prop) (i : Nat) (ys : List Value) (nws : List (Addr × Obj)) : Prop := (∀ q ∈ nw9, q ∈ nws) ∧ ys.length = i ∧ ∀ (j : Nat) (y : Value), ys[j]? = some y → R nws j y
theorem CInv.start {nw9 : List (Addr × Obj)} {R : List (Addr × Obj) → Nat → Value → Prop} : CInv nw9 R 0 [] nw9 := ⟨fun _ h => h, rfl, fun j y e => nomatch (show (none : Option Value) = some y from by simpa using e)⟩
theorem CInv.snoc {nw9 nws nws' : List (Addr × Obj)} {R : List (Addr × Obj) → Nat → Value → Prop} {i : Nat} {ys : List Value} {y : Value} (h : CInv nw9 R i ys nws) (sub : ∀ q ∈ nws, q ∈ nws') (mono : ∀ j y, R nws j y → R nws' j y) (hy : R nws' i y) : CInv nw9 R (i + 1) (ys ++ [y]) nws' := by
  obtain ⟨a, rfl, c⟩ := h
  refine ⟨fun q hq => sub q (a q hq), by simp, fun j y' e => ?_⟩
  by_cases hj : j < ys.length
  · rw [List.getElem?_append_left hj] at e
    exact mono _ _ (c j y' e)
  · have hj' : j = ys.length := by
      have := (List.getElem?_eq_some_iff.mp e).1
      simp at this; omega
    subst hj'
    have : y' = y := by simpa using e.symm
    exact this ▸ hy
/-- what `_law_shells(x)` gave -/
def ShellAt (w : World) (nw : List (Addr × Obj)) (x : Int) (y : Value) : Prop :=
  ∃ sh v th vs c, y = .ref sh ∧ Mid w nw (Int.fmod x 9) (Int.fmod (Int.fdiv x 36) 1000) v ∧ Tower nw v (Int.fmod (Int.fdiv x 9) 4).toNat th vs ∧ (sh, listOf vs.toArray c) ∈ nw
theorem ShellAt.mono {w : World} {nw nw2 : List (Addr × Obj)} {x : Int} {y : Value} (h : ShellAt w nw x y) (hs : ∀ q ∈ nw, q ∈ nw2) : ShellAt w nw2 x y := by
  obtain ⟨sh, v, th, vs, c, e, M, T, hm⟩ := h
  exact ⟨sh, v, th, vs, c, e, M.mono hs, T.mono hs, hs _ hm⟩
def ShR (w : World) (xs : List Int) (nws : List (Addr × Obj)) (j : Nat) (y : Value) : Prop := ∃ x : Int, xs[j]? = some x ∧ ShellAt w nws x y
theorem ShR.mono {w : World} {xs : List Int} {nws nws' : List (Addr × Obj)} (sub : ∀ q ∈ nws, q ∈ nws') (j : Nat) (y : Value) (h : ShR w xs nws j y) : ShR w xs nws' j y :=
  let ⟨x, e, s⟩ := h; ⟨x, e, s.mono sub⟩
def KiR (xs : List Int) (_ : List (Addr × Obj)) (j : Nat) (y : Value) : Prop := ∃ (x : Int) (t : Tok), xs[j]? = some x ∧ y = .int (Int.fmod x 9) t
/-- the last of the shells -/
def RoR (w : World) (xs : List Int) (shs : List Value) (nws : List (Addr × Obj)) (j : Nat) (y : Value) : Prop := ∃ (x : Int) (sh : Addr) (v : Value) (vs : List Value) (c : Nat), xs[j]? = some x ∧ shs[j]? = some (.ref sh) ∧
  Mid w nws (Int.fmod x 9) (Int.fmod (Int.fdiv x 36) 1000) v ∧ Tower nws v (Int.fmod (Int.fdiv x 9) 4).toNat y vs ∧ (sh, listOf vs.toArray c) ∈ nws
def LaR (w : World) (xs : List Int) (nws : List (Addr × Obj)) (j : Nat) (y : Value) : Prop := ∃ (x : Int) (v : Value) (vs : List Value), xs[j]? = some x ∧ Mid w nws (Int.fmod x 9) (Int.fmod (Int.fdiv x 36) 1000) v ∧ Tower nws v (Int.fmod (Int.fdiv x 9) 4).toNat y vs
theorem LaR.mono {w : World} {xs : List Int} {nws nws' : List (Addr × Obj)} (sub : ∀ q ∈ nws, q ∈ nws') (j : Nat) (y : Value) (h : LaR w xs nws j y) : LaR w xs nws' j y :=
  let ⟨x, v, vs, a, M, T⟩ := h; ⟨x, v, vs, a, M.mono sub, T.mono sub⟩
theorem RoR.mono {w : World} {xs : List Int} {shs : List Value} {nws nws' : List (Addr × Obj)} (sub : ∀ q ∈ nws, q ∈ nws') (j : Nat) (y : Value) (h : RoR w xs shs nws j y) : RoR w xs shs nws' j y :=
  let ⟨x, sh, v, vs, c, a, b, M, T, hm⟩ := h; ⟨x, sh, v, vs, c, a, b, M.mono sub, T.mono sub, sub _ hm⟩
theorem ints_at {vs : List Value} {ns : List Int} (h : IntsAre vs ns) {i : Nat} {v : Value} (e : vs.toArray[i]? = some v) : ∃ x t, ns[i]? = some x ∧ v = .int x t := by
  have e' : vs[i]? = some v := by simpa using e
  have hl : i < ns.length := by
    have := (List.getElem?_eq_some_iff.mp e').1
    have := h.length; omega
  obtain ⟨t, ht⟩ := h.get i ns[i] (by simp [hl])
  exact ⟨ns[i], t, by simp [hl], Option.some.inj (e'.symm.trans ht)⟩
theorem gives_shells (w : World) (x : Int) : GivesShells w x (Int.fmod (Int.fdiv x 9) 4).toNat := by
  have e9 : Int.fmod x 9 = x % 9 := by rw [Int.fmod_eq_emod_of_nonneg _ (by decide)]
  have e36 : Int.fmod (Int.fdiv x 36) 1000 = (x / 36) % 1000 := by rw [Int.fmod_eq_emod_of_nonneg _ (by decide), Int.fdiv_eq_ediv_of_nonneg _ (by decide)]
  have e4 : Int.fmod (Int.fdiv x 9) 4 = (x / 9) % 4 := by rw [Int.fmod_eq_emod_of_nonneg _ (by decide), Int.fdiv_eq_ediv_of_nonneg _ (by decide)]
  have hG : GivesMid w (Int.fmod x 9) (Int.fmod (Int.fdiv x 36) 1000) := middle_any (by omega) (by omega) (by omega) (by omega)
  have h : Int.fmod (Int.fdiv x 9) 4 = 0 ∨ Int.fmod (Int.fdiv x 9) 4 = 1 ∨ Int.fmod (Int.fdiv x 9) 4 = 2 ∨ Int.fmod (Int.fdiv x 9) 4 = 3 := by omega
  rcases h with h | h | h | h
  · rw [h]; exact shells_0 h hG
  · rw [h]; exact shells_1 h hG
  · rw [h]; exact shells_2 h hG
  · rw [h]; exact shells_3 h hG
theorem level_out {w : World} {nw : List (Addr × Obj)} {row : Addr} {vs0 : Array Value} {c0 : Nat} {i : Int} (hr : (row, listOf vs0 c0) ∈ nw) (ho : i < -(vs0.size : Int) ∨ (vs0.size : Int) ≤ i) (hlo : -(2 ^ 63) ≤ i) (hhi : i < 2 ^ 63)
    {j : Nat} {r : Addr} (C : Chain w nw row j r) : Yields w nw (.ref r) i (j + 1) (.exc .index) := by
  induction C with
  | row => exact yields_out hr ho hlo hhi
  | it it d tk C h1 h2 ih => exact step_exc ih h1 h2
theorem tower_last {nw : List (Addr × Obj)} {v x : Value} {d : Nat} {vs : List Value} (T : Tower nw v d x vs) : At vs.toArray (-1) x := by
  obtain ⟨a, b, _⟩ := T.at
  refine .inr ⟨by decide, by decide, by simp only [List.size_toArray]; omega, ?_⟩
  have e1 : ((-1 : Int) + (vs.toArray.size : Int)).toNat = d := by simp only [List.size_toArray]; omega
  rw [e1]
  simpa using b
theorem len_any {prog : Program} {w : World} {A : Around} {E : Value → Shared → Prop} {h₀ h : Heap} {L : Addr} {g d os} {tk : Nat} {news : List (Addr × Obj)} {l : Addr} {vs : Array Value} {n : Nat} {Q : Value → Shared → Prop} (N : News h₀ L h news) (hm : (l, listOf vs n) ∈ news) (hs : vs.size ≤ 1000) (post : Q (.int vs.size (tk + 1)) ⟨h, g, d, tk + 1 + 1, os⟩) :
    wpAny (model prog w) A (call (.builtin "len") [.ref l]) Q E ⟨h, g, d, tk, os⟩ := call_len_list (N.isList hm) (by omega) post
section
variable {h₀ : Heap} {L I : Addr} {s₁ : Shared} {it : Obj} {r r' : (Str → Option Value) → List (Addr × Obj) → Prop}
theorem unrEnd_mono {s₂ : Shared} (hr : ∀ m n, (∀ p ∈ n, p.1 ≠ I) → r m n → r' m n) (h : UnrEnd h₀ L s₁ I it r s₂) : UnrEnd h₀ L s₁ I it r' s₂ := by
  obtain ⟨h', tk, m', nw, e, F, N, o, hh⟩ := h
  exact ⟨h', tk, m', nw, e, F, N, o, hr _ _ o hh⟩
theorem unrPost_mono {Q : Flow → Shared → Prop} {f : Flow} {s₂ : Shared} (hr : ∀ m n, (∀ p ∈ n, p.1 ≠ I) → r m n → r' m n) (h : UnrPost h₀ L s₁ I it r Q f s₂) : UnrPost h₀ L s₁ I it r' Q f s₂ := by
  cases f with
  | ret v => exact h
  | brk => exact h
  | next => exact unrEnd_mono hr h
  | cont => exact unrEnd_mono hr h
end
/-- a loop over a range by an invariant -/
theorem range_rest {prog : Program} {w : World} {A : Around} {E : Value → Shared → Prop} {h₀ : Heap} {env : Env} {x : Str} {body : List Stmt} {Q : Flow → Shared → Prop} {s : Shared} {I : Addr} {a : Int} (n : Nat) (Inv : Nat → (Str → Option Value) → List (Addr × Obj) → Prop)
    (fin : ∀ m news h tk, Inv n m news → Fr h₀ env.locals h m → News h₀ env.locals h news → Q .next { s with heap := h, toks := tk })
    (turn : ∀ i m news t h tk, i < n → Inv i m news → (∀ p ∈ news, p.1 ≠ I) → Fr h₀ env.locals h (fun y => if y = x then some (.int (a + (i : Int)) t) else m y) → News h₀ env.locals h ((I, itR (a + ((i + 1 : Nat) : Int)) ((n : Int) - ((i + 1 : Nat) : Int))) :: news) →
      wpAny (model prog w) A (execs body env) (UnrPost h₀ env.locals { s with heap := h, toks := tk } I (itR (a + ((i + 1 : Nat) : Int)) ((n : Int) - ((i + 1 : Nat) : Int))) (fun m' n' => Inv (i + 1) m' n') Q) E { s with heap := h, toks := tk }) :
    ∀ (k i : Nat) (m : Str → Option Value) (news : List (Addr × Obj)), i + k = n → Inv i m news → (∀ p ∈ news, p.1 ≠ I) → RangeRest prog w A E h₀ env x body Q s I a n k i m news
  | 0, i, m, news, e, hI, _ => RangeRest.zero fun h tk F N => fin m news h tk ((show i = n by omega) ▸ hI) F N
  | k + 1, i, m, news, e, hI, ho => RangeRest.succ fun t h tk F N =>
      wpAny_mono (turn i m news t h tk (by omega) hI ho F N) (fun f s₂ z => unrPost_mono (fun m' n' o hh => range_rest n Inv fin turn k (i + 1) m' n' (by omega) hh o) z) fun _ _ z => z
/-- the frame's names, with five of them open -/
abbrev frm (m₀ : Str → Option Value) (b vi vp vit vn : Option Value) : Str → Option Value := fun y => if y = "below" then b else if y = "i" then vi else if y = "p" then vp else if y = "it" then vit else if y = "n" then vn else m₀ y
theorem frm_self (m₀ : Str → Option Value) : m₀ = frm m₀ (m₀ "below") (m₀ "i") (m₀ "p") (m₀ "it") (m₀ "n") := by
  funext y
  unfold frm
  split
  · rename_i h; rw [h]
  · split
    · rename_i h; rw [h]
    · split
      · rename_i h; rw [h]
      · split
        · rename_i h; rw [h]
        · split
          · rename_i h; rw [h]
          · rfl
def PInv (x : Str) (m1 : Str → Option Value) (nw : List (Addr × Obj)) (_ : Nat) (m : Str → Option Value) (n : List (Addr × Obj)) : Prop := n = nw ∧ ∃ v, m = fun y => if y = x then v else m1 y
theorem PInv.start {x : Str} {m1 : Str → Option Value} {nw : List (Addr × Obj)} : PInv x m1 nw 0 m1 nw := ⟨rfl, m1 x, funext fun y => by split <;> simp_all⟩
theorem PInv.next {x : Str} {m1 : Str → Option Value} {nw : List (Addr × Obj)} {i : Nat} {v vp : Option Value} : PInv x m1 nw i (fun y => if y = x then v else (fun y => if y = x then vp else m1 y) y) nw :=
  ⟨rfl, v, funext fun y => by by_cases h : y = x <;> simp [h]⟩
theorem small_len {n : Nat} (h : n ≤ 1000) : Builtin.Range.small 0 (n : Int) 1 = true := small_one (by decide) (by decide) (by omega) (by omega)
theorem size_len (n : Nat) : Builtin.Range.rangeSize 0 (n : Int) 1 = (n : Int) := by
  unfold Builtin.Range.rangeSize
  simp
  omega
theorem at_front {ys : List Value} {p : Nat} {y : Value} (h : ys[p]? = some y) (hl : ys.length ≤ 1000) : At ys.toArray (0 + (p : Int)) y := by
  have := (List.getElem?_eq_some_iff.mp h).1
  refine .inl ⟨by omega, by omega, ?_⟩
  rw [show (0 + (p : Int)).toNat = p by omega]; simpa using h
theorem at_back {ys : List Value} {p : Nat} {y : Value} (h : ys[p]? = some y) (hl : ys.length ≤ 1000) : At ys.toArray (0 + (p : Int) - (ys.toArray.size : Int)) y := by
  have := (List.getElem?_eq_some_iff.mp h).1
  simp only [List.size_toArray]
  refine .inr ⟨by omega, by omega, by simp only [List.size_toArray]; omega, ?_⟩
  rw [show (0 + (p : Int) - (ys.length : Int) + (ys.toArray.size : Int)).toNat = p by simp only [List.size_toArray]; omega]; simpa using h
theorem d_le (x : Int) : (Int.fmod (Int.fdiv x 9) 4).toNat ≤ 3 := by
  have e4 : Int.fmod (Int.fdiv x 9) 4 = (x / 9) % 4 := by rw [Int.fmod_eq_emod_of_nonneg _ (by decide), Int.fdiv_eq_ediv_of_nonneg _ (by decide)]
  omega
theorem frm_next {m₀ : Str → Option Value} {B V1 V2 VP VT VN b vi vp vit vn : Option Value} : (fun y => if y = ("below" : Str) then B else if y = ("i" : Str) then V1 else if y = ("i" : Str) then V2 else if y = ("p" : Str) then VP else
    (fun y => if y = ("it" : Str) then VT else if y = ("n" : Str) then VN else frm m₀ b vi vp vit vn y) y) = frm m₀ B V1 VP VT VN := by
  funext y
  by_cases h1 : y = ("below" : Str)
  · simp only [frm, if_pos h1]
  · by_cases h2 : y = ("i" : Str)
    · simp only [frm, if_neg h1, if_pos h2]
    · by_cases h3 : y = ("p" : Str)
      · simp only [frm, if_neg h1, if_neg h2, if_pos h3]
      · by_cases h4 : y = ("it" : Str)
        · simp only [frm, if_neg h1, if_neg h2, if_neg h3, if_pos h4]
        · by_cases h5 : y = ("n" : Str)
          · simp only [frm, if_neg h1, if_neg h2, if_neg h3, if_neg h4, if_pos h5]
          · simp only [frm, if_neg h1, if_neg h2, if_neg h3, if_neg h4, if_neg h5]
theorem split4 {h₀ h : Heap} {L : Addr} {a b c : Addr × Obj} {rest : List (Addr × Obj)} (N : News h₀ L h (a :: b :: c :: rest)) : ∃ nw4 nw5, News h₀ L h nw4 ∧ nw5 = a :: b :: rest ∧ (∀ p ∈ c :: nw5, p ∈ nw4) := by
  refine ⟨_, _, N, rfl, fun q hq => ?_⟩
  rcases List.mem_cons.mp hq with rfl | hq
  · exact .tail _ (.tail _ (.head _))
  · rcases List.mem_cons.mp hq with rfl | hq
    · exact .head _
    · rcases List.mem_cons.mp hq with rfl | hq
      · exact .tail _ (.head _)
      · exact .tail _ (.tail _ (.tail _ hq))
def NInv (w : World) (nwb : List (Addr × Obj)) (row : Addr) (m₀ : Str → Option Value) (i : Nat) (m : Str → Option Value) (nws : List (Addr × Obj)) : Prop :=
  ∃ (r : Addr) (vi vp vit vn : Option Value), Chain w nws row i r ∧ (∀ q ∈ nwb, q ∈ nws) ∧ m = frm m₀ (some (.ref r)) vi vp vit vn
end Mine
end
section
open PySem PySem.W PyProof.Rows PySem.Calls PySem.SeqAt PySem.MeetsSeq PySem.MeetsSeq3
set_option Elab.async false
set_option maxRecDepth 100000
set_option maxHeartbeats 1000000
namespace Mine
/-- the two are equal in this program and world -/
def EqW (prog : Program) (w : World) (A : Around) (s : Shared) (y x : Value) : Prop := ∀ (E : Value → Shared → Prop) (Q : Bool → Shared → Prop), Q true s → wpAny (model prog w) A (eqBool y x) Q E s
theorem loopW {prog : Program} {w : World} (l b : Addr) (items items2 : Array Value) (n n2 : Nat) (dd dd2 : Option Addr) (sl sl2 : Array (Option Value)) (hsz : items.size = items2.size) (k : Nat) :
    ∀ i : Nat, items.size - i = k → ∀ (A : Around) (R : Result → Shared → Prop) (s : Shared), s.heap.get? l = some { cls := .type "list", dict := dd, data := .seq items n, slots := sl } → s.heap.get? b = some { cls := .type "list", dict := dd2, data := .seq items2 n2, slots := sl2 } →
      (∀ j (h1 : j < items.size) (h2 : j < items2.size), EqW prog w A.in1 s items[j] items2[j]) → R (.ok (.ret (.bool true))) s →
      wpAny (model prog w) A.in1 (Builtin.«list.__eq__.loop» ⟨[.ref l, .ref b, rawInt i, rawInt 2], []⟩) (fun fin s' => match fin with | .done f => R (.ok f) s' | .again c' => c'.quiet = true ∧ codeAny (model prog w) A c' R s') (fun e s' => R (.error e) s') s := by
  induction k with
  | zero =>
    intro i hk A R s hl hb he h
    obtain ⟨hp, g, d, tk, os⟩ := s
    wp_walk using wpAny_loadPart' hl, wpAny_loadPart' hb
    have hi1 : items[((i : Nat) : Int).toNat]? = none := by simp; omega
    have hi2 : items2[((i : Nat) : Int).toNat]? = none := by simp; omega
    rw [hi1, hi2]
    wp_walk using wpAny_loadPart' hl, wpAny_loadPart' hb
    show R (.ok (.ret (.bool (items.size == items2.size)))) _
    rw [hsz]
    simpa using h
  | succ k ih =>
    intro i hk A R s hl hb he h
    obtain ⟨hp, g, d, tk, os⟩ := s
    wp_walk using wpAny_loadPart' hl, wpAny_loadPart' hb
    have hlt : i < items.size := by omega
    have hlt2 : i < items2.size := by omega
    have hi1 : items[((i : Nat) : Int).toNat]? = some items[i] := by simp [hlt]
    have hi2 : items2[((i : Nat) : Int).toNat]? = some items2[i] := by simp [hlt2]
    have hc : ((i : Int) + 1) = ((i + 1 : Nat) : Int) := by push_cast; rfl
    rw [hi1, hi2]
    refine wpAny_bind (he i hlt hlt2 _ _ ?_)
    wp_walk
    rw [hc]
    exact ⟨plainId_quiet plain_eq_loop _, codeAny_builtin entry_eq_loop (by
      rw [Around.under_plainId plain_eq_loop _]
      exact ih (i + 1) (by omega) A R _ hl hb he h)⟩
end Mine
end
section
open PySem PySem.W PyProof.Rows PySem.Calls PySem.SeqAt PySem.MeetsSeq PySem.MeetsSeq3
set_option Elab.async false
set_option maxRecDepth 100000
set_option maxHeartbeats 1000000
namespace Mine
theorem list_eqW {prog : Program} {w : World} (l b : Addr) (items items2 : Array Value) (n n2 : Nat) (dd dd2 : Option Addr) (sl sl2 : Array (Option Value)) (hsz : items.size = items2.size) :
    MeetsIn prog w (Builtin.«list.__eq__» ⟨[.ref l, .ref b], []⟩)
      (fun A R s => s.heap.get? l = some { cls := .type "list", dict := dd, data := .seq items n, slots := sl } ∧ s.heap.get? b = some { cls := .type "list", dict := dd2, data := .seq items2 n2, slots := sl2 } ∧
        (∀ j (h1 : j < items.size) (h2 : j < items2.size), EqW prog w A.in1 s items[j] items2[j]) ∧ R (.ok (.ret (.bool true))) s) := by
  intro A R s h
  obtain ⟨hp, g, d, tk, os⟩ := s; obtain ⟨hl, hb, he, h⟩ := h
  have f3 := AutoSeq1.sub_list_list
  have hne : ¬ (items.size != items2.size) = true := by simp [hsz]
  wp_walk using wpAny_loadPart' hl, wpAny_loadPart' hb
  exact ⟨plainId_quiet plain_eq_loop _, codeAny_builtin entry_eq_loop (by
    rw [Around.under_plainId plain_eq_loop _]
    exact loopW l b items items2 n n2 dd dd2 sl sl2 hsz _ 0 rfl A R _ hl hb he h)⟩
/-- the comparison of two values gives True -/
def RcW (prog : Program) (w : World) (A : Around) (s : Shared) (y x : Value) : Prop := ∀ (E : Value → Shared → Prop) (Q : Value → Shared → Prop), Q (.bool true) s → wpAny (model prog w) A (richCompare .Eq y x) Q E s
theorem RcW.lists {prog : Program} {w : World} {A : Around} {s : Shared} {l b : Addr} {items items2 : Array Value} (hl : s.heap.IsList l items) (hb : s.heap.IsList b items2) (hsz : items.size = items2.size) (hu : A.units < cLine)
    (he : ∀ j (h1 : j < items.size) (h2 : j < items2.size), EqW prog w A.in1 s items[j] items2[j]) : RcW prog w A s (.ref l) (.ref b) := fun E Q h => by
  obtain ⟨⟨cls, dd, data, sl⟩, ho, hc, n, hd⟩ := id hl
  obtain ⟨⟨cls2, dd2, data2, sl2⟩, ho2, hc2, n2, hd2⟩ := id hb
  simp only at hc hd hc2 hd2
  subst hc hd hc2 hd2
  exact wpAny_richCompare_same_room (op := .Eq) ⟨_, ho, rfl⟩ ⟨_, ho2, rfl⟩ F.slot_list_eq (call_meetsIn F.slot_list_eq ⟨_, ho, rfl⟩ F.entry_list_eq (F.args_list_eq_2 _ _) (list_eqW l b items items2 n n2 dd dd2 sl sl2 hsz)
    ⟨ho, ho2, he, show Value.bool true ≠ Value.notImplemented ∧ Q (.bool true) s from ⟨(fun x => nomatch x), h⟩⟩) hu
theorem EqW.same {prog : Program} {w : World} {A : Around} {s : Shared} (v : Value) : EqW prog w A s v v := fun E Q h => EqAt.same v prog w E Q h
theorem EqW.of_refs {prog : Program} {w : World} {A : Around} {s : Shared} {l b : Addr} (h : RcW prog w A s (.ref l) (.ref b)) : EqW prog w A s (.ref l) (.ref b) := fun E Q hq => by
  by_cases hne : l = b
  · subst hne; exact EqAt.same _ prog w E Q hq
  · unfold eqBool
    refine wpAny_holding ?_
    refine wpAny_ite_split (fun hab => absurd (by have := eq_of_beq hab; injection this) hne) (fun _ => ?_)
    exact wpAny_bind (h E _ (wpAny_truthy_bool hq))
theorem EqW.of_at {prog : Program} {w : World} {A : Around} {s : Shared} {y x : Value} (h : EqAt A s y x true) : EqW prog w A s y x := fun E Q hq => h prog w E Q hq
theorem EqW.str {prog : Program} {w : World} {A : Around} {s : Shared} (a : Str) (t u : Tok) : EqW prog w A s (.str a t) (.str a u) := .of_at (by have := EqAt.str_str (A := A) (s := s) a t a u; rwa [beq_self_eq_true] at this)
theorem EqW.int {prog : Program} {w : World} {A : Around} {s : Shared} (a : Int) (t u : Tok) : EqW prog w A s (.int a t) (.int a u) := .of_at (by have := EqAt.int_int (A := A) (s := s) a t a u; rwa [beq_self_eq_true] at this)
theorem at_str {A : Around} {s : Shared} (a : Str) (t u : Tok) : EqAt A s (.str a t) (.str a u) true := by have := EqAt.str_str (A := A) (s := s) a t a u; rwa [beq_self_eq_true] at this
theorem at_int {A : Around} {s : Shared} (a : Int) (t u : Tok) : EqAt A s (.int a t) (.int a u) true := by have := EqAt.int_int (A := A) (s := s) a t a u; rwa [beq_self_eq_true] at this
/-- two lists that are equal at each place -/
theorem at_list {A : Around} {s : Shared} {l b : Addr} {items items2 : Array Value} (hl : s.heap.IsList l items) (hb : s.heap.IsList b items2) (hsz : items.size = items2.size) (hu : A.units < cLine)
    (he : ∀ j (h1 : j < items.size) (h2 : j < items2.size), EqAt A.in1 s items[j] items2[j] true) : EqAt A s (.ref l) (.ref b) true := fun prog w E Q hq => EqW.of_refs (RcW.lists hl hb hsz hu (fun j h1 h2 E Q => he j h1 h2 prog w E Q)) E Q hq
/-- two tuples of one thing -/
theorem at_tuple {A : Around} {s : Shared} {l b : Addr} {y x : Value} (hl : s.heap.IsTuple l #[y]) (hb : s.heap.IsTuple b #[x]) (hu : A.units < cLine) (he : EqAt A.in1 s y x true) : EqAt A s (.ref l) (.ref b) true := fun prog w E Q hq => by
  by_cases hne : l = b
  · subst hne; exact EqAt.same _ prog w E Q hq
  · exact EqAt.of_refs hne (RcAt.tuples (e := fun _ => true) hl hb hu (fun j h1 h2 => by
      obtain rfl : j = 0 := by simpa using h1
      exact he)) prog w E Q hq
/-- two dicts of the same names, in the same turn -/
theorem EqW.dict {prog : Program} {w : World} {A : Around} {s : Shared} {a b : Addr} {ka kb : List (Str × Value)} (ha : (a == sysModules) = false) (hb : (b == sysModules) = false)
    (da : s.heap.DictOf (strKind prog w) a ka) (db : s.heap.DictOf (strKind prog w) b kb) (hu : A.units < cLine) (hl : ka.length = kb.length) (hits : KeqHits A.in1 s kb ka true) : EqW prog w A s (.ref a) (.ref b) :=
  .of_refs fun E Q h => keq_eq ha hb da db hu (fun _ => hits) (by rw [hl, beq_self_eq_true, Bool.true_and]; exact h)
section
variable {w : World} {nw : List (Addr × Obj)} {h₀ : Heap} {L : Addr} {s : Shared}
theorem lst_of {a : Addr} {its : Array Value} {n : Nat} (N : News h₀ L s.heap nw) (h : (a, listOf its n) ∈ nw) : s.heap.IsList a its := ⟨_, (N _ h).1, rfl, _, rfl⟩
theorem tup_of {a : Addr} {its : Array Value} (N : News h₀ L s.heap nw) (h : (a, tupOf its) ∈ nw) : s.heap.IsTuple a its := ⟨_, (N _ h).1, rfl, _, rfl⟩
theorem dct_of {prog : Program} {a : Addr} {o : Obj} {kvs : List (Str × Value)} (N : News h₀ L s.heap nw) (h : (a, o) ∈ nw) (d : o.IsDictOf (strKind prog w) kvs) : s.heap.DictOf (strKind prog w) a kvs := Heap.dictOf_iff.mpr ⟨o, (N _ h).1, d⟩
theorem at_one {A : Around} {a b : Addr} {n : Int} {t u : Tok} (N : News h₀ L s.heap nw) (h : (a, listOf #[.int n t] 0) ∈ nw) (h' : (b, listOf #[.int n u] 0) ∈ nw) (hu : A.units < cLine) : EqAt A s (.ref a) (.ref b) true :=
  at_list (lst_of N h) (lst_of N h') rfl hu fun j h1 h2 => by
    obtain rfl : j = 0 := by simpa using h1
    exact at_int _ _ _
theorem hit1 {A : Around} {kb : List (Str × Value)} {k : Str} {v y : Value} {r : List (Str × Value)} {b : Bool} (h : valueAt kb k = some y) (e : EqAt A s v y true) (g : KeqHits A s kb r b) : KeqHits A s kb ((k, v) :: r) b := by
  have := KeqHits.hit h e g
  rwa [Bool.true_and] at this
end
end Mine
end
section
open PySem PySem.W PyProof.Rows PySem.Calls PySem.SeqAt PySem.MeetsSeq PySem.MeetsSeq3
set_option Elab.async false
set_option maxRecDepth 100000
set_option maxHeartbeats 1000000
namespace Mine
section
variable {w : World} {nw : List (Addr × Obj)} {h₀ : Heap} {L : Addr} {s : Shared} {A : Around} {k n : Int}
/-- two middles of the same number are equal -/
theorem mid_eq {v v' : Value} (N : News h₀ L s.heap nw) (M : Mid w nw k n v) (M' : Mid w nw k n v') (hu : A.units + 4 < cLine) :
    EqW PySem.Challenge.rw_kn0109_06.row.prog w A s v v' := by
  have hu1 : A.in1.units < cLine := by show A.units + 1 < cLine; omega
  have hu0 : A.units < cLine := by omega
  cases M with
  | int t h => cases M' with
    | int t' _ => exact EqW.int _ _ _
    | _ => omega
  | str t h => cases M' with
    | str t' _ => exact EqW.str _ _ _
    | _ => omega
  | none h => cases M' with
    | none _ => exact EqW.same _
    | _ => omega
  | tup a l t h h1 h2 => cases M' with
    | tup a' l' t' _ h1' h2' => exact .of_at (at_tuple (tup_of N h1) (tup_of N h1') hu0 (at_one N h2 h2' hu1))
    | _ => omega
  | lst a h h1 => cases M' with
    | lst a' _ h1' => exact .of_at (at_list (lst_of N h1) (lst_of N h1') rfl hu0 (fun j h1 _ => absurd h1 (Nat.not_lt_zero _)))
    | _ => omega
  | fault a l o t t1 t2 h h1 h2 h3 h4 => cases M' with
    | fault a' l' o' t' t1' t2' _ h1' h2' h3' h4' =>
      exact .dict h4 h4' (dct_of N h1 h3) (dct_of N h1' h3') hu0 rfl
        (hit1 (by rfl) (at_one N h2 h2' hu1) (hit1 (by rfl) (at_int _ _ _) (hit1 (by rfl) (at_str _ _ _) .nil)))
    | _ => omega
  | six a o t1 t2 h h1 h2 h3 => cases M' with
    | six a' o' t1' t2' _ h1' h2' h3' =>
      exact .dict h2 h2' (dct_of N h1 h3) (dct_of N h1' h3') hu0 rfl (hit1 (by rfl) (at_str _ _ _) (hit1 (by rfl) (at_int _ _ _) .nil))
    | _ => omega
  | seven a o t1 t2 h h1 h2 h3 => cases M' with
    | seven a' o' t1' t2' _ h1' h2' h3' =>
      exact .dict h2 h2' (dct_of N h1 h3) (dct_of N h1' h3') hu0 rfl (hit1 (by rfl) (at_int _ _ _) (hit1 (by rfl) (at_str _ _ _) .nil))
    | _ => omega
  | empty a o h h0 h1 h2 h3 => cases M' with
    | empty a' o' _ _ h1' h2' h3' => exact .dict h2 h2' (dct_of N h1 h3) (dct_of N h1' h3') hu0 rfl .nil
    | _ => omega
  | eight a o t1 t2 h h0 h1 h2 h3 => cases M' with
    | eight a' o' t1' t2' _ _ h1' h2' h3' =>
      exact .dict h2 h2' (dct_of N h1 h3) (dct_of N h1' h3') hu0 rfl (hit1 (by rfl) (at_str _ _ _) (hit1 (by rfl) (at_int _ _ _) .nil))
    | _ => omega
theorem tower_eq {v v' : Value} (N : News h₀ L s.heap nw) {d : Nat} (B : Nat) (hv : ∀ A : Around, A.units ≤ B + d → EqW PySem.Challenge.rw_kn0109_06.row.prog w A s v v') (hB : B + d < cLine) :
    ∀ {j : Nat} {th : Value} {vs : List Value}, Tower nw v j th vs → ∀ {th' : Value} {vs' : List Value}, Tower nw v' j th' vs' → j ≤ d → ∀ A : Around, A.units + j ≤ B + d → EqW PySem.Challenge.rw_kn0109_06.row.prog w A s th th' := by
  intro j th vs T
  induction T with
  | zero =>
    intro th' vs' T' hj A hA
    cases T' with
    | zero => exact hv A hA
  | @succ j th vs r tb T h ih =>
    intro th' vs' T' hj A hA
    cases T' with
    | @succ _ th2 vs2 r2 tb2 T2 h2 =>
      refine EqW.of_refs (RcW.lists (lst_of N h) (lst_of N h2) (by simp) (by omega) fun i h1 h2 => ?_)
      cases i with
      | zero => simpa using ih T2 (by omega) A.in1 (by show A.units + 1 + j ≤ B + d; omega)
      | succ i =>
        have e1 : (th :: List.replicate j (Value.str "behind" tb)).toArray[i + 1] = Value.str "behind" tb := by simp
        have e2 : (th2 :: List.replicate j (Value.str "behind" tb2)).toArray[i + 1] = Value.str "behind" tb2 := by simp
        rw [e1, e2]
        exact EqW.str _ _ _
end
end Mine
end
section
open PySem PySem.W PyProof.Rows PySem.Calls PySem.SeqAt PySem.MeetsSeq PySem.MeetsSeq3
set_option Elab.async false
set_option maxRecDepth 100000
set_option maxHeartbeats 1000000
namespace Mine
theorem lasts_eq {w : World} {nw : List (Addr × Obj)} {h₀ : Heap} {L : Addr} {s : Shared} (N : News h₀ L s.heap nw) {x : Int} {v v' th th' : Value} {vs vs' : List Value}
    (M : Mid w nw (Int.fmod x 9) (Int.fmod (Int.fdiv x 36) 1000) v) (M' : Mid w nw (Int.fmod x 9) (Int.fmod (Int.fdiv x 36) 1000) v') (T : Tower nw v (Int.fmod (Int.fdiv x 9) 4).toNat th vs) (T' : Tower nw v' (Int.fmod (Int.fdiv x 9) 4).toNat th' vs')
    {A : Around} (hu : A.units + 20 < cLine) : EqW PySem.Challenge.rw_kn0109_06.row.prog w A s th th' := by
  have hd : (Int.fmod (Int.fdiv x 9) 4).toNat ≤ 4 := by
    have := Int.fmod_lt_of_pos (Int.fdiv x 9) (show (0 : Int) < 4 by decide); omega
  exact tower_eq N (d := (Int.fmod (Int.fdiv x 9) 4).toNat) A.units (fun A' hA' => mid_eq N M M' (by omega)) (by omega) T T' (Nat.le_refl _) A (by omega)
theorem rows_eq {w : World} {xs : List Int} {ys1 ys3 ysL : List Value} {nw9 news3 news6 newsL : List (Addr × Obj)} {h₀ : Heap} {L D3 DL : Addr} {s : Shared} {i3 iL : Nat} {A : Around} (N : News h₀ L s.heap ((DL, LCg.lst ysL) :: newsL))
    (h3 : CInv nw9 (RoR w xs ys1) i3 ys3 news3) (hs : ∀ q ∈ (D3, LCg.lst ys3) :: news3, q ∈ newsL) (hL : CInv news6 (LaR w xs) iL ysL newsL) (hlen : i3 = iL) (hu : A.units + 30 < cLine) : RcW PySem.Challenge.rw_kn0109_06.row.prog w A s (.ref D3) (.ref DL) := by
  have e3 := h3.2.1
  have eL := hL.2.1
  have hs' : ∀ q ∈ news3, q ∈ (DL, LCg.lst ysL) :: newsL := fun q hq => .tail _ (hs q (.tail _ hq))
  refine RcW.lists (lst_of N (.tail _ (hs _ (.head _)))) (lst_of N (.head _)) (by simp only [List.size_toArray]; omega) (by omega) fun j h1 h2 => ?_
  simp only [List.size_toArray] at h1 h2
  obtain ⟨x, sh, v, vs, c, hx, hsh, M, T, hm⟩ := h3.2.2 j _ (List.getElem?_eq_getElem h1)
  obtain ⟨x', v', vs', hx', M', T'⟩ := hL.2.2 j _ (List.getElem?_eq_getElem h2)
  obtain rfl : x = x' := Option.some.inj (hx.symm.trans hx')
  simp only [List.getElem_toArray]
  exact lasts_eq N (M.mono hs') (M'.mono fun q hq => .tail _ hq) (T.mono hs') (T'.mono fun q hq => .tail _ hq) (by show A.units + 1 + 20 < cLine; omega)
end Mine
end
section
open PySem PySem.W PyProof.Rows PySem.Calls PySem.SeqAt
set_option Elab.async false
set_option maxRecDepth 100000
set_option maxHeartbeats 1000000
namespace Mine
def Hide (P : Prop) : Prop := P
theorem hide_src {α : Type} {M : Model} {A : Around} {t : Sem α} {P : α → Shared → Prop} {E : Value → Shared → Prop} {s : Shared} (h : wpAny M A t (fun v s => Hide (P v s)) E s) : wpAny M A t P E s := h
local macro_rules | `(tactic| walk_at "exec Assign cons ListComp") => `(tactic| (k_here; k_dflt (refine LCg.Assign_ListComp_U (F₀ := by k_asm) (by rfl) (by with_unfolding_all rfl) (by rfl) (by decide) (by rfl) (by decide) (by rfl) (by rfl) (by rfl) (hide_src ?_))))
local macro_rules | `(tactic| walk_at "call ref") => `(tactic| (k_here; (with_reducible show wpAny _ _ (call (Value.ref 95) _ _) _ _ _); k_dflt (refine' gives_shells _ _ _ _ _ _ _ _ _ _ _ _ _ _ _ _ _ _ _ _ _ _ _ _ _ ?B ?F ?X ?N ?T ?hk ?hd ?hu ?_; (case B => k_asm); (case F => k_asm); (case X => k_asm); (case N => k_asm); (case T => k_asm); (case hk => exact rfl); (case hd => exact Nat.le_of_ble_eq_true rfl); (case hu => exact Nat.le_of_ble_eq_true rfl)); (try dsimp only); intro h' tk' sh' ex' v' th' vs' c' M' T' m' F' N' l1))
theorem unhide {P : Prop} (h : Hide P) : P := h
local macro_rules | `(tactic| walk_at "pyIter ref") => `(tactic| (k_here; (with_reducible show wpAny _ _ (pyIter (Value.ref _)) _ _ _); refine unhide ?_))
local macro_rules | `(tactic| walk_at "subscriptTail") => `(tactic| (k_here; (with_reducible show wpAny _ _ (subscriptTail _ _ (Value.ref _) (Value.int _ _)) _ _ _); k_dflt (refine' item_atN ?k0 ?k1 ?k2 ?_; (case k0 => k_asm); (case k1 => (repeat (first | with_reducible assumption | exact List.mem_append_left _ (by with_reducible assumption) | with_reducible exact List.mem_cons_self .. | with_reducible refine List.mem_cons_of_mem _ ?_))); (case k2 => first | with_reducible assumption | exact tower_last (by with_reducible assumption) | exact at0 | exact at1); k_whole)))
local macro_rules | `(tactic| walk_at "call builtin:len") => `(tactic| (k_here; (with_reducible show wpAny _ _ (call (Value.builtin "len") [Value.ref _]) _ _ _); k_dflt (refine' len_any ?k0 ?k1 ?k2 ?_; (case k0 => k_asm); (case k1 => (repeat (first | with_reducible assumption | with_reducible exact List.mem_cons_self .. | with_reducible refine List.mem_cons_of_mem _ ?_))); (case k2 => (simp only [List.size_toArray]; omega)); k_whole)))
local macro_rules | `(tactic| walk_at "call ref") => `(tactic| (k_here; (with_reducible show wpAny _ _ (call (Value.ref 116) _ _) _ _ _); refine unhide ?_))
local macro_rules | `(tactic| walk_at "call ref") => `(tactic| (k_here; (with_reducible show wpAny _ _ (call (Value.ref 109) _ _) _ _ _); refine unhide ?_))
local macro_rules | `(tactic| walk_at "eval ListComp") => `(tactic| (k_here; k_dflt (refine LCg.ListComp_U (F₀ := by k_asm) (by rfl) (by decide) (by rfl) (by decide) (by rfl) (hide_src ?_))))
theorem whole : PySem.Challenge.rw_kn0109_06.Holds := hdx (by
  k_go0
  (all_goals try k_fold)
  k_steps
  unfold Hide
  rename World => w9
  rename List Value => ws9
  rename IntsAre ws9 _ => hI9
  obtain ⟨xs9, hI9, hx17⟩ : ∃ xs, IntsAre ws9 xs ∧ xs.length ≤ 17 := ⟨_, hI9, by simp only [List.length_append, List.length_take, List.length_cons, List.length_nil]; omega⟩
  have hl9 := hI9.length
  rename News _ _ _ _ => N9
  obtain ⟨nw9, hn9, hN9⟩ : ∃ nw9, nw9 = _ ∧ News _ _ _ nw9 := ⟨_, rfl, N9⟩
  clear N9
  refine LCg.CompSrc.ledger (its := ws9.toArray) (k := 0) rfl (by k_asm) hN9 (by rw [hn9]; exact .head _) ?size (fun g => ?_)
  case size => simp only [List.size_toArray, sizeLine]; omega
  refine comp_rest _ (CInv nw9 (ShR w9 xs9)) ?fin ?turn _ 0 [] _ (Nat.zero_add _) CInv.start
  case turn =>
    intro i ys news v I oI C oC D m₂ h tk E' hi hInv hP hoC hm2 F2 N2 off ne
    obtain ⟨x9, t9, hx9, rfl⟩ := ints_at hI9 hP
    k_steps
    rename Mid _ _ _ _ _ => M9
    rename Tower _ _ _ _ _ => T9
    rename ∀ q ∈ _, ∀ q' ∈ _, _ < _ => fr9
    rename List (Addr × Obj) => ex9
    refine LCg.CompEnd.intro (by k_asm) (by k_asm) (ex9 ++ news) (fun p hp => mem_three hp) (off3_app fr9 off) (.inr ⟨_, List.mem_append_right _ (hInv.1 _ (by rw [hn9]; exact .head _)), rfl, _, rfl⟩)
      (hInv.snoc (fun q hq => List.mem_append_right _ hq) (ShR.mono fun q hq => List.mem_append_right _ hq) ⟨x9, hx9, _, _, _, _, _, rfl, M9.mono (fun q hq => List.mem_append_left _ hq), T9.mono (fun q hq => List.mem_append_left _ hq), List.mem_append_left _ (by assumption)⟩)
  case fin =>
    intro ys1 news1 hInv1 D1 h1 tk1 F1 N1 o1
    dsimp only at F1 N1 ⊢
    k_steps
    unfold Hide
    refine LCg.CompSrc.ledger (its := ws9.toArray) (k := 0) rfl (by k_asm) N1 (.tail _ (hInv1.1 _ (by rw [hn9]; exact .head _))) ?size (fun g => ?_)
    case size => simp only [List.size_toArray, sizeLine]; omega
    refine comp_rest _ (CInv ((D1, LCg.lst ys1) :: news1) (KiR xs9)) ?fin ?turn _ 0 [] _ (Nat.zero_add _) CInv.start
    case turn =>
      intro i ys news v I oI C oC D m₂ h tk E' hi hInv hP hoC hm2 F2 N2 off ne
      obtain ⟨x9, t9, hx9, rfl⟩ := ints_at hI9 hP
      k_steps
      exact LCg.CompEnd.intro (by k_asm) (by k_asm) news (fun p hp => hp) off (.inr ⟨_, hInv.1 _ (.tail _ (hInv1.1 _ (by rw [hn9]; exact .head _))), rfl, _, rfl⟩) (hInv.snoc (fun q hq => hq) (fun _ _ h => h) ⟨x9, _, hx9, rfl⟩)
    case fin =>
      intro ys2 news2 hInv2 D2 h2 tk2 F2 N2 o2
      dsimp only at F2 N2 ⊢
      k_steps
      unfold Hide
      refine LCg.CompSrc.ledger (its := ys1.toArray) (k := ys1.length) rfl (by k_asm) N2 (.tail _ (hInv2.1 _ (.head _))) ?size (fun g => ?_)
      case size =>
        have hq := hInv1.2.1
        simp only [List.size_toArray, sizeLine] at hq ⊢; omega
      refine comp_rest _ (CInv ((D2, LCg.lst ys2) :: news2) (RoR w9 xs9 ys1)) ?fin ?turn _ 0 [] _ (Nat.zero_add _) CInv.start
      case turn =>
        intro i ys news v I oI C oC D m₂ h tk E' hi hInv hP hoC hm2 F3 N3 off ne
        have hv9 : ys1[i]? = some v := by simpa using hP
        obtain ⟨x9, hx9, sh9, v9, th9, vs9, c9, rfl, M9, T9, hs9⟩ := hInv1.2.2 i v hv9
        have up9 : ∀ q ∈ news1, q ∈ news := fun q hq => hInv.1 _ (.tail _ (hInv2.1 _ (.tail _ hq)))
        have at9 := tower_last T9
        replace hs9 := up9 _ hs9
        k_steps
        exact LCg.CompEnd.intro (by k_asm) (by k_asm) news (fun p hp => hp) off (.inr ⟨_, hInv.1 _ (.tail _ (hInv2.1 _ (.head _))), rfl, _, rfl⟩) (hInv.snoc (fun q hq => hq) (fun _ _ h => h) ⟨x9, sh9, v9, vs9, c9, hx9, hv9, M9.mono up9, T9.mono up9, hs9⟩)
      case fin =>
        intro ys3 news3 hInv3 D3 h3 tk3 F3 N3 o3
        dsimp only at F3 N3 ⊢
        have hq1 := hInv1.2.1
        have hq2 := hInv2.2.1
        have hq3 := hInv3.2.1
        simp only [List.size_toArray] at hq1 hq2 hq3
        k_steps
        unfold Hide
        rename IsRange _ _ _ _ _ _ _ _ => hR
        refine iter_rangeUnr (n := 5) rfl hR (by decide) (by decide) (by k_asm) (by k_asm) (fun I lI => ?_)
        refine range_rest 5 (NInv w9 ((D3, LCg.lst ys3) :: news3) D3 _) ?fin ?turn 5 0 _ _ rfl ⟨D3, _, _, _, _, .row, fun _ h => h, frm_self _⟩ (fun p hp => Nat.ne_of_lt (lI p hp))
        case turn =>
          intro i m news t h tk hi hInv off F4 N4
          obtain ⟨r, vi, vp, vit, vn, hC, hsub, rfl⟩ := hInv
          k_steps
          unfold Hide
          rename IsRange _ _ _ _ _ _ _ _ => hR4
          rename News _ _ _ _ => N4'
          obtain ⟨nw4, nw5, hN4, hn5, hI4⟩ := split4 N4'
          clear N4'
          rename _ < _ ∧ AllLt _ _ => l4
          rename (_ : Nat) < _ => l5
          have o5 : ∀ p ∈ nw5, p.1 ≠ I := by rw [hn5]; exact off_cons (Nat.lt_trans l4.1 l5) (off_cons l4.1 off)
          have hs5 : ∀ q ∈ news, q ∈ nw5 := fun q hq => by rw [hn5]; exact .tail _ (.tail _ hq)
          have hC5 := Chain.it (w := w9) (nw := nw5) (row := D3) _ _ _ (hC.mono hs5) (by rw [hn5]; exact .head _) (by rw [hn5]; exact .tail _ (.head _))
          have h54 : ∀ q ∈ nw5, q ∈ nw4 := fun q hq => hI4 q (.tail _ hq)
          have hs4 : ∀ q ∈ news, q ∈ nw4 := fun q hq => h54 q (hs5 q hq)
          have hC4 := hC5.mono h54
          clear hn5
          refine iter_rangeUnr (n := ys3.length) rfl hR4 (small_len (by omega)) (size_len _) (by k_asm) hN4 (fun I2 lI2 => ?_)
          refine range_rest ys3.length (PInv "p" _ nw4) ?fin4 ?turn4 ys3.length 0 _ _ (Nat.zero_add _) PInv.start (fun p hp => Nat.ne_of_lt (lI2 p hp))
          case turn4 =>
            rintro j m5 news5 t5 h5 tk5 hj ⟨rfl, vp5, rfl⟩ off5 F5 N5
            k_steps
            unfold Hide
            obtain ⟨y5, hy5⟩ : ∃ y, ys3[j]? = some y := ⟨_, List.getElem?_eq_getElem hj⟩
            obtain ⟨x5, sh5, v5, vs5, c5, hx5, hsh5, M5, T5, hm5⟩ := hInv3.2.2 j y5 hy5
            have up5 : ∀ q ∈ news3, q ∈ news5 := fun q hq => hs4 _ (hsub _ (.tail _ hq))
            replace M5 := M5.mono up5
            replace T5 := T5.mono up5
            replace hm5 := up5 _ hm5
            obtain ⟨O5, hO5, hA5⟩ := lev_ask (by omega) (d_le x5) T5 M5 (level (row := D3) (vs0 := ys3.toArray) (c0 := ys3.length) (hs4 _ (hsub _ (.head _))) T5 M5 hC4)
            refine hA5 _ (at_front hy5 (by omega)) _ _ _ _ _ _ _ _ _ _ _ _ _ _ _ _ _ _ _ _ _  (by k_asm) (by k_asm) (by k_asm) (by k_asm) (by k_asm) rfl (Nat.le_of_ble_eq_true rfl) (Nat.le_of_ble_eq_true rfl) (fun q hq => .tail _ hq) ?_
            intro l6 ex6 h6 tk6 A6 F6 N6
            dsimp only
            k_steps
            unfold Hide
            refine hA5 _ (at_back hy5 (by omega)) _ _ _ _ _ _ _ _ _ _ _ _ _ _ _ _ _ _ _ _ _  (by k_asm) (by k_asm) (by k_asm) (by k_asm) (by k_asm) rfl (Nat.le_of_ble_eq_true rfl) (Nat.le_of_ble_eq_true rfl) (fun q hq => List.mem_append_right _ (.tail _ hq)) ?_
            intro l7 ex7 h7 tk7 A7 F7 N7
            dsimp only
            have at7 := at_front hsh5 (show ys1.length ≤ 1000 by omega)
            obtain ⟨k5, hk5⟩ : ∃ y, ys2[j]? = some y := ⟨_, List.getElem?_eq_getElem (show j < ys2.length by omega)⟩
            obtain ⟨x5', t6, hx5', rfl⟩ := hInv2.2.2 j k5 hk5
            obtain rfl : x5' = x5 := Option.some.inj (hx5'.symm.trans hx5)
            have at8 := at_front hk5 (show ys2.length ≤ 1000 by omega)
            obtain ⟨nw7, hn7, hN7⟩ : ∃ nw7, nw7 = _ ∧ News _ _ _ nw7 := ⟨_, rfl, N7⟩
            clear N7
            have h57 : ∀ q ∈ news5, q ∈ nw7 := fun q hq => by rw [hn7]; exact List.mem_append_right _ (List.mem_append_right _ (.tail _ hq))
            have h67 : ∀ q ∈ ex6, q ∈ nw7 := fun q hq => by rw [hn7]; exact List.mem_append_right _ (List.mem_append_left _ hq)
            have h77 : ∀ q ∈ ex7, q ∈ nw7 := fun q hq => by rw [hn7]; exact List.mem_append_left _ hq
            have m7 : (D1, W.listOf ys1.toArray ys1.length) ∈ nw7 := h57 _ (up5 _ (hInv3.1 _ (.tail _ (hInv2.1 _ (.head _)))))
            have m8 : (D2, W.listOf ys2.toArray ys2.length) ∈ nw7 := h57 _ (up5 _ (hInv3.1 _ (.head _)))
            k_steps
            unfold Hide
            have hG7 := fun tk tn n (hn : n = ((i + 1 : Nat) : Int)) => lev_right (nw2 := nw7) (tk := tk) (tn := tn) hO5 A6 A7 (fun q hq => List.mem_append_left _ hq) h57 h67 h77 (h57 _ hm5) (by have := T5.at; have := d_le x5'; omega) T5.at.2.2 hn
            refine hG7 _ _ _ (by omega) _ _ _ _ _ _ _ _ _ _ _ _ _ _ _ _ _ _ _ _ _ _ (by k_asm) (by k_asm) (by k_asm) hN7 (by k_asm) rfl (Nat.le_of_ble_eq_true rfl) (Nat.le_of_ble_eq_true rfl) (fun q hq => hq) ?_
            intro h8 tk8 F8 N8
            dsimp only
            k_steps
            exact UnrEnd.intro F8 N8 news5 (fun p hp => by rw [hn7]; exact List.mem_append_right _ (List.mem_append_right _ hp)) off5 PInv.next
          case fin4 =>
            rintro m6 news6 h6 tk6 ⟨rfl, vp6, rfl⟩ F6 N6
            dsimp only
            k_steps
            unfold Hide
            have hz3 : ys3.toArray.size = ys3.length := by simp
            have hA6 := fun (z : Int) (hz : z = (ys3.toArray.size : Int) ∨ z = -(ys3.toArray.size : Int) - 1) => ask_index (D := i + 2) (by omega) (level_out (i := z) (row := D3) (vs0 := ys3.toArray) (c0 := ys3.length) (hs4 _ (hsub _ (.head _))) (by omega) (by omega) (by omega) hC4)
            refine iter_listUnr rfl (by k_asm) (by k_asm) (.head _) rfl rfl (fun I8 lI8 => ListRest.succ fun it8 h8 tk8 hc8 F8 N8 => ?_)
            k_steps
            unfold Hide
            refine hA6 _ (.inl rfl) _ _ _ _ _ _ _ _ _ _ _ _ _ _ _ _ _ _ _ _ _  (by k_asm) (by k_asm) (by k_asm) (by k_asm) (by k_asm) rfl (Nat.le_of_ble_eq_true rfl) (Nat.le_of_ble_eq_true rfl) (fun q hq => .tail _ (.tail _ hq)) ?_
            intro l9 ex9 h9 tk9 A9 F9 N9
            cases A9
            simp only [List.cons_append] at N9
            dsimp only
            k_steps
            refine UnrEnd.intro (by k_asm) (by k_asm) _ (fun p hp => ?sub1) (fun p hp => Nat.ne_of_lt (lI8 p hp)) ⟨.head _, ListRest.succ fun it10 h10 tk10 hc10 F10 N10 => ?_⟩
            case sub1 => first | exact .tail _ (List.mem_append_right _ hp) | exact .tail _ (.tail _ (List.mem_append_right _ hp))
            k_steps
            unfold Hide
            refine hA6 _ (.inr rfl) _ _ _ _ _ _ _ _ _ _ _ _ _ _ _ _ _ _ _ _ _  (by k_asm) (by k_asm) (by k_asm) (by k_asm) (by k_asm) rfl (Nat.le_of_ble_eq_true rfl) (Nat.le_of_ble_eq_true rfl) (fun q hq => .tail _ (.tail _ hq)) ?_
            intro l9 ex9 h9 tk9 A9 F9 N9
            cases A9
            simp only [List.cons_append] at N9
            dsimp only
            k_steps
            refine UnrEnd.intro (by k_asm) (by k_asm) _ (fun p hp => ?sub2) (fun p hp => Nat.ne_of_lt (lI8 p hp)) ⟨.head _, ListRest.zero fun h11 tk11 F11 N11 => ?_⟩
            case sub2 => first | exact .tail _ (List.mem_append_right _ hp) | exact .tail _ (.tail _ (List.mem_append_right _ hp))
            k_steps
            exact UnrEnd.intro (by k_asm) (by k_asm) nw5 (fun p hp => .tail _ (hI4 p hp)) o5 ⟨_, _, _, _, _, hC5, fun q hq => hs5 q (hsub q hq), frm_next⟩
        case fin =>
          rintro m6 news6 h6 tk6 ⟨r6, vi6, vp6, vit6, vn6, hC6, hsub6, rfl⟩ F6 N6
          dsimp only
          k_steps
          unfold Hide
          have hm6 : (_, W.listOf ws9.toArray 0) ∈ news6 := hsub6 _ (.tail _ (hInv3.1 _ (.tail _ (hInv2.1 _ (.tail _ (hInv1.1 _ (by rw [hn9]; exact .head _)))))))
          refine LCg.CompSrc.ledger (its := ws9.toArray) (k := 0) rfl (by k_asm) N6 hm6 ?size (fun g => ?_)
          case size => simp only [List.size_toArray, sizeLine]; omega
          refine comp_rest _ (CInv news6 (LaR w9 xs9)) ?finL ?turnL _ 0 [] _ (Nat.zero_add _) CInv.start
          case turnL =>
            intro i ys news v I oI C oC D m₂ h tk E' hi hInv hP hoC hm2 F2 N2 off ne
            obtain ⟨x9, t9, hx9, rfl⟩ := ints_at hI9 hP
            k_steps
            rename Mid _ _ _ _ _ => M9
            rename Tower _ _ _ _ _ => T9
            rename ∀ q ∈ _, ∀ q' ∈ _, _ < _ => fr9
            rename List (Addr × Obj) => ex9
            exact LCg.CompEnd.intro (by k_asm) (by k_asm) (ex9 ++ news) (fun p hp => mem_three hp) (off3_app fr9 off) (.inr ⟨_, List.mem_append_right _ (hInv.1 _ hm6), rfl, _, rfl⟩)
              (hInv.snoc (fun q hq => List.mem_append_right _ hq) (LaR.mono fun q hq => List.mem_append_right _ hq) ⟨x9, _, _, hx9, M9.mono (fun q hq => List.mem_append_left _ hq), T9.mono (fun q hq => List.mem_append_left _ hq)⟩)
          case finL =>
            intro ysL newsL hInvL DL hL tkL FL NL oL
            dsimp only at FL NL ⊢
            refine rows_eq (w := w9) NL hInv3 (fun q hq => hInvL.1 q (hsub6 q hq)) hInvL ?len ?un _ _ ?_
            case len => first | rfl | (simp only [List.size_toArray] at *; omega)
            case un => first | k_units | exact Nat.lt_of_lt_of_le (Nat.lt_of_ble_eq_true rfl) (Nat.le_refl _)
            k_steps)
end Mine
end
theorem PySem.Challenge.cw_kn0109_06_holds : PySem.Challenge.rw_kn0109_06.Holds :=
  Mine.whole
