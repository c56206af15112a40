import PyProof.Rows.All
import Wide.All
import OpenK.AllK
import Wide.FinOn
import PySem.Challenge.RW_kn0109_04
section
open PySem PySem.W PyProof.Rows
set_option Elab.async false
set_option maxRecDepth 100000
set_option maxHeartbeats 0
namespace Mine
section
local macro_rules | `(tactic| o_head $_) => `(tactic| assumption)
/-- lays the written part of the heap (topH.heap_1), and nothing else -/
theorem topH (_ : PySem.Challenge.rw_kn0109_04.row.Holds) : PySem.Challenge.rw_kn0109_04.row.Holds := by
  w_on
  k_head
end
/-- the same part in a pair: so the head makes no quick twin of it (the twin would stay unused, 2 MB) -/
noncomputable def kA : {l : Params → Frag // l = l} := by
  refine' ⟨_, ?e⟩
  case e =>
    refine' Eq.trans (b := topH.heap_1) ?h1 ?h2
    case h1 => conv => rhs; delta topH.heap_1
    case h2 => exact rfl
noncomputable def kF : Params → Frag := kA.1
/-- the hook over topH.heap_1 itself (the same by unfolding) -/
noncomputable abbrev kG : Hook := kmHook topH.heap_1 [2, 3, 15, 22, 23, 24, 25, 28, 35, 37, 38, 40, 41, 42, 44, 45, 47, 48, 49, 50, 51, 61, 63, 64, 66, 67, 68, 70, 71, 73, 74, 75, 77, 78, 80, 81, 82, 83, 84, 85, 86, 96, 98, 99, 101, 102, 103, 105, 106, 108, 109, 110, 111, 112, 113, 114, 124, 126, 127, 129, 130, 131, 133, 134, 136, 137, 138, 140, 141, 143, 144, 145, 146, 147, 148, 149, 152, 154, 155, 157, 158, 159, 161, 162, 164, 165, 166, 168, 169, 171, 172, 173, 175, 176, 178, 179, 180, 182, 183, 185, 186, 187, 189, 190, 192, 193, 194, 196, 197, 199, 200, 201, 204, 205] (fun _ => by kernel_rfl) [195, 188, 181, 202]
section
noncomputable abbrev kH : Hook := kmHook kF [2, 3, 15, 22, 23, 24, 25, 28, 35, 37, 38, 40, 41, 42, 44, 45, 47, 48, 49, 50, 51, 61, 63, 64, 66, 67, 68, 70, 71, 73, 74, 75, 77, 78, 80, 81, 82, 83, 84, 85, 86, 96, 98, 99, 101, 102, 103, 105, 106, 108, 109, 110, 111, 112, 113, 114, 124, 126, 127, 129, 130, 131, 133, 134, 136, 137, 138, 140, 141, 143, 144, 145, 146, 147, 148, 149, 152, 154, 155, 157, 158, 159, 161, 162, 164, 165, 166, 168, 169, 171, 172, 173, 175, 176, 178, 179, 180, 182, 183, 185, 186, 187, 189, 190, 192, 193, 194, 196, 197, 199, 200, 201, 204, 205] (fun _ => by kernel_rfl) [195, 188, 181, 202]
local macro_rules | `(tactic| k_head) => `(tactic| o_head kH)
open_top hdk for PySem.Challenge.rw_kn0109_04
end
end Mine
end
section
open PySem PySem.W PyProof.Rows
set_option Elab.async false
set_option maxRecDepth 100000
set_option maxHeartbeats 8000000
namespace Mine

/-- what the second field of an exception record says: nothing yet, or an entry whose flight mark is `fl` -/
def Tb (base h : Heap) (e : Addr) (vs : Array Value) : Option Value → Prop
  | none => vs[1]? = some .none
  | some fl => ∃ T oT ts, vs[1]? = some (.ref T) ∧ base.get? T = none ∧ T ≠ e ∧ h.get? T = some oT ∧ oT.data = .fields ts ∧ ts[3]? = some fl

/-- an exception record at `e` of which `P` is known, over frames `l` -/
def ExcIn (base : Heap) (l : List Env) (e : Addr) (P : Obj → Prop) (st : Option Value) (h : Heap) : Prop :=
  base.StaysIn h ∧ base.get? e = none ∧ h.FunFrames base l ∧ ∃ oe vs, h.get? e = some oe ∧ P oe ∧ oe.data = .fields vs ∧ Tb base h e vs st

/-- what is known does not hang on the entry -/
def Still (P : Obj → Prop) : Prop := ∀ o vs v, P o → o.data = .fields vs → P (Obj.mapFields (·.setIfInBounds 1 v) o)

theorem Tb.size {base h : Heap} {e : Addr} {vs : Array Value} {st : Option Value} (t : Tb base h e vs st) : 1 < vs.size := by
  cases st with
  | none => exact (Array.getElem?_eq_some_iff.mp t).1
  | some fl => obtain ⟨_, _, _, h1, _⟩ := t; exact (Array.getElem?_eq_some_iff.mp h1).1

section
variable {M : Model} {A : Around} {E : Value → Shared → Prop} {s : Shared}

theorem entryP {base : Heap} {env : Env} {outer : List Env} {L e : Addr} {oe : Obj} {vs : Array Value} {head : Value} {b : Bool} {P : Obj → Prop} {Q : Unit → Shared → Prop} (hP : Still P)
    (hfr : A.frames = some (env :: outer)) (hf : env.frame = some L) (hb : base.StaysIn s.heap) (hen : base.get? e = none) (hl : s.heap.FunFrames base (env :: outer))
    (he : s.heap.get? e = some oe) (hp : P oe) (hd : oe.data = .fields vs) (hsz : 1 < vs.size)
    (k : ∀ h', ExcIn base (env :: outer) e P (some (rawInt L)) h' → s.heap.UpToSlots h' → Q () { s with heap := h' }) :
    wpAny M A (do setField (.ref e) 1 (← EntryCells.newEntry head (← frameOf env) .none (rawInt L) .none (← entryPlaceOf L b))) Q E s := by
  refine wpAny_bind (wpAny_frameOf_fun hfr hl hf fun h₁ hs => ?_)
  refine wpAny_bind (wpAny_entryPlaceOf fun pl hpl => ?_)
  unfold EntryCells.newEntry newFields
  refine wpAny_bind (wpAny_newObj_type ?_ (hpl.sizeOk5 _ _ _ _ _))
  have hnf : e ∉ (env :: outer).filterMap (·.frame) := by
    intro hm
    obtain ⟨_, o, ho, nf⟩ := hl.mem hm
    rw [he] at ho; cases ho
    exact nf vs hd
  have he₁ : h₁.get? e = some oe := (hs.2.1 e hnf).trans he
  generalize hob : ({ cls := .type "traceback", dict := none, data := .fields ([head, .ref L, .none, rawInt L, .none] ++ (if pl.isEmpty then List.replicate 6 Value.none else pl)).toArray } : Obj) = ob
  have hobd : ob.data = .fields ([head, .ref L, .none, rawInt L, .none] ++ (if pl.isEmpty then List.replicate 6 Value.none else pl)).toArray := by rw [← hob]
  have hobf : ob.isFreed = false := Obj.isFreed_of_fields hobd
  have he₂ : (h₁.push ob).get? e = some oe := Heap.get?_push_of_some _ he₁
  refine wpAny_setField he₂ hd hsz (k _ ?_ ?_)
  · have hTe : h₁.objs.size ≠ e := Nat.ne_of_gt (Heap.lt_size he₁)
    have hd' := Obj.data_mapFields hd (·.setIfInBounds 1 (Value.ref h₁.objs.size))
    have he' := Heap.get?_update_self (Obj.mapFields (·.setIfInBounds 1 (Value.ref h₁.objs.size))) he₂ (Obj.isFreed_of_fields hd')
    have keep : ∀ b o, b ≠ e → h₁.get? b = some o → ((h₁.push ob).update e (Obj.mapFields (·.setIfInBounds 1 (Value.ref h₁.objs.size)))).get? b = some o := fun b o hbe q => by
      rw [Heap.get?_update_other _ _ (Ne.symm hbe)]
      exact Heap.get?_push_of_some _ q
    have hT : ((h₁.push ob).update e (Obj.mapFields (·.setIfInBounds 1 (Value.ref h₁.objs.size)))).get? h₁.objs.size = some ob := by
      rw [Heap.get?_update_other _ _ (Ne.symm hTe)]
      exact Heap.get?_push_size _ hobf
    have b₁ : base.StaysIn h₁ := fun b o q => (hs.2.1 b fun hm => by rw [(hl.mem hm).1] at q; cases q).trans (hb b o q)
    refine ⟨fun b o q => keep b o (fun z => by rw [z, hen] at q; cases q) (b₁ b o q), hen, hl.of_keeps fun b o q nf => ?_, ?_⟩
    · obtain ⟨sl, q'⟩ := hs.2.2 b o q
      exact ⟨_, keep b _ (fun z => by rw [z, he] at q; cases q; exact nf vs hd) q', rfl⟩
    · exact ⟨_, _, he', hP oe vs _ hp hd, hd', h₁.objs.size, ob, _, by simp [hsz], b₁.fresh, hTe, hT, hobd, by simp⟩
  · intro b o q nf
    obtain ⟨sl, q'⟩ := hs.2.2 b o q
    refine ⟨sl, ?_⟩
    rw [Heap.get?_update_other _ _ (fun z => by rw [← z, he] at q; cases q; exact nf vs hd)]
    exact Heap.get?_push_of_some _ q'

theorem noteP {base : Heap} {env : Env} {outer : List Env} {L e : Addr} {P : Obj → Prop} {st : Option Value} {Q : Unit → Shared → Prop} (hP : Still P)
    (hfr : A.frames = some (env :: outer)) (hf : env.frame = some L) (hst : st = none ∨ st = some .none) (x : ExcIn base (env :: outer) e P st s.heap)
    (k : ∀ h', ExcIn base (env :: outer) e P (some (rawInt L)) h' → s.heap.UpToSlots h' → Q () { s with heap := h' }) :
    wpAny M A (noteFrame (.ref e) env) Q E s := by
  obtain ⟨hb, hen, hl, oe, vs, he, hp, hd, ht⟩ := x
  have hsz := ht.size
  unfold noteFrame
  simp only [hf]
  rcases hst with rfl | rfl
  · refine wpAny_bind (wpAny_field he hd ht ?_)
    rw [if_neg (by decide)]
    exact entryP hP hfr hf hb hen hl he hp hd hsz k
  · obtain ⟨T, oT, ts, h1, hbT, hTe, hT, hdT, h3⟩ := ht
    refine wpAny_bind (wpAny_field he hd h1 ?_)
    rw [if_pos (show (Value.ref T != Value.none) = true from by simp)]
    refine wpAny_bind (wpAny_field hT hdT h3 ?_)
    rw [if_neg (show ¬ ((Value.none == rawInt L) = true) from by simp [rawInt])]
    refine wpAny_bind (wpAny_setField hT hdT (Array.getElem?_eq_some_iff.mp h3).1 ?_)
    have other : ∀ b, b ≠ T → (s.heap.update T (Obj.mapFields (·.setIfInBounds 3 Value.none))).get? b = s.heap.get? b := fun b q => Heap.get?_update_other _ _ (Ne.symm q)
    have recd : ∀ b o, s.heap.get? b = some o → (∀ ws, o.data ≠ .fields ws) → b ≠ T := fun b o q nf z => by
      rw [z, hT] at q; cases q; exact nf ts hdT
    refine entryP hP hfr hf (fun b o q => (other b fun z => by rw [z, hbT] at q; cases q).trans (hb b o q)) hen (hl.of_keeps fun b o q nf => ⟨o, (other b (recd b o q nf)).trans q, rfl⟩) ((other e (Ne.symm hTe)).trans he) hp hd hsz
      fun h' x' u => k h' x' fun b o q nf => u b o ((other b (recd b o q nf)).trans q) nf

theorem flightP {base : Heap} {l : List Env} {e : Addr} {P : Obj → Prop} {fl : Value} {Q : Unit → Shared → Prop}
    (x : ExcIn base l e P (some fl) s.heap) (k : ∀ h', ExcIn base l e P (some .none) h' → s.heap.UpToSlots h' → Q () { s with heap := h' }) :
    wpAny M A (setFlight (.ref e) none) Q E s := by
  obtain ⟨hb, hen, hl, oe, vs, he, hp, hd, T, oT, ts, h1, hbT, hTe, hT, hdT, h3⟩ := x
  have h3' := (Array.getElem?_eq_some_iff.mp h3).1
  unfold setFlight
  refine wpAny_bind (wpAny_field he hd h1 ?_)
  rw [if_pos (show (Value.ref T != Value.none) = true from by simp)]
  have other : ∀ b, b ≠ T → (s.heap.update T (Obj.mapFields (·.setIfInBounds 3 ((none : Option Addr).elim Value.none fun f => rawInt f)))).get? b = s.heap.get? b := fun b q => Heap.get?_update_other _ _ (Ne.symm q)
  have recd : ∀ b o, s.heap.get? b = some o → (∀ ws, o.data ≠ .fields ws) → b ≠ T := fun b o q nf z => by
    rw [z, hT] at q; cases q; exact nf ts hdT
  refine wpAny_setField hT hdT h3' (k _ ⟨fun b o q => (other b fun z => by rw [z, hbT] at q; cases q).trans (hb b o q), hen, hl.of_keeps fun b o q nf => ⟨o, (other b (recd b o q nf)).trans q, rfl⟩,
    oe, vs, (other e (Ne.symm hTe)).trans he, hp, hd, T, _, _, h1, hbT, hTe, Heap.get?_update_self _ hT (Obj.isFreed_of_fields (Obj.data_mapFields hdT _)), Obj.data_mapFields hdT _, by simp [h3']⟩
    fun b o q nf => ⟨o.slots, (other b (recd b o q nf)).trans q⟩)

theorem leaveP {base : Heap} {env : Env} {outer : List Env} {L e : Addr} {P : Obj → Prop} {st : Option Value} {Q : Unit → Shared → Prop} (hP : Still P)
    (hfr : A.frames = some (env :: outer)) (hf : env.frame = some L) (hst : st = none ∨ st = some .none) (x : ExcIn base (env :: outer) e P st s.heap)
    (k : ∀ h', ExcIn base outer e P (some .none) h' → s.heap.UpToSlots h' → Q () { s with heap := h' }) :
    wpAny M A (leaving env (.ref e)) Q E s := by
  unfold leaving
  refine wpAny_bind (noteP hP hfr hf hst x fun h₁ x₁ u₁ => ?_)
  refine flightP x₁ fun h₂ x₂ u₂ => k h₂ ?_ (u₁.trans u₂)
  obtain ⟨a, b, ⟨_, _, c⟩, d⟩ := x₂
  exact ⟨a, b, c, d⟩

end
end Mine
end
section
open PySem PySem.W PyProof.Rows
set_option Elab.async false
set_option maxRecDepth 100000
set_option maxHeartbeats 8000000
namespace Mine

/-- an exception in flight: all that `G` holds (but the frames `l`) and the ledger `news` stay -/
def RaisedP (base G : Heap) (l : List Env) (e : Addr) (P : Obj → Prop) (news : List (Addr × Obj)) (h : Heap) : Prop :=
  ∃ B st, (st = none ∨ st = some Value.none) ∧ base.StaysIn B ∧ (∀ b o, G.get? b = some o → b ∉ l.filterMap (·.frame) → B.get? b = some o) ∧
    (∀ q ∈ news, B.get? q.1 = some q.2 ∧ G.get? q.1 = none ∧ base.get? q.1 = none) ∧ ExcIn B l e P st h

theorem frame_mem {env : Env} {L b : Addr} {outer : List Env} (hf : env.frame = some L) (hm : b ∈ (env :: outer).filterMap (·.frame)) : b = L ∨ b ∈ outer.filterMap (·.frame) := by
  rw [List.filterMap_cons_some hf] at hm
  exact List.mem_cons.mp hm
section
variable {M : Model} {A : Around} {E : Value → Shared → Prop} {s' : Shared} {base g h h₂ G : Heap} {outer : List Env} {L e : Addr} {m : Str → Option Value} {env : Env} {Q : Unit → Shared → Prop}
  {news ex : List (Addr × Obj)} {P : Obj → Prop} {oe : Obj} {vs : Array Value}

theorem raiseHere (K : Below A base outer g) (F : Fr g L h m) (N : News g L h news) (keep : ∀ b o, h.get? b = some o → h₂.get? b = some o) (hen : h.get? e = none) (he : h₂.get? e = some oe) (hp : P oe)
    (hd : oe.data = .fields vs) (h1 : vs[1]? = some .none) (hx : ∀ q ∈ ex, h₂.get? q.1 = some q.2 ∧ h.get? q.1 = none ∧ q.1 ≠ e) (hf' : env.frame = some L) (hk : env.scope.kind = .function) :
    ∃ G, Fr g L G m ∧ RaisedP base G (env :: outer) e P (ex ++ news) h₂ ∧ G.UpToSlots h₂ := by
  have K' := pushX K F hf' hk
  have hn : ∀ b o, g.get? b = some o → b ∉ news.map (·.1) := fun b o q hm => by
    obtain ⟨p, hp, rfl⟩ := List.mem_map.mp hm
    rw [(N p hp).2.2] at q; cases q
  have hL : L ∉ news.map (·.1) := fun hm => by
    obtain ⟨p, hp, z⟩ := List.mem_map.mp hm
    exact (N p hp).2.1 z
  have hbe : base.get? e = none := fresh_of_stays K'.stays hen
  have hb : ∀ {b o}, h.get? b = some o → b ∉ (env :: outer).filterMap (·.frame) → (hideAll h₂ (e :: (env :: outer).filterMap (·.frame))).get? b = some o := fun {b o} q hm =>
    hideAll_get _ (keep b o q) fun z => by
      rcases List.mem_cons.mp z with z | z
      · rw [z, hen] at q; cases q
      · exact hm z
  refine ⟨hideAll h (news.map (·.1)), ⟨?_, fun b o q => hideAll_get _ (F.keep b o q) (hn b o q), F.above⟩, ⟨hideAll h₂ (e :: (env :: outer).filterMap (·.frame)), none, .inl rfl, ?_, ?_, ?_, ?_⟩, ?_⟩
  · obtain ⟨oL, es, ep, q, r⟩ := F.ns
    exact ⟨oL, es, ep, hideAll_get _ q hL, r⟩
  · exact fun b o q => hb (K'.stays b o q) fun hm => by rw [(K'.frames.mem hm).1] at q; cases q
  · exact fun b o q hm => hb (of_hideAll _ q) hm
  · intro q hq
    rcases List.mem_append.mp hq with hq | hq
    · obtain ⟨x1, x2, x3⟩ := hx q hq
      refine ⟨hideAll_get _ x1 fun z => ?_, ?_, fresh_of_stays K'.stays x2⟩
      · rcases List.mem_cons.mp z with z | z
        · exact x3 z
        · obtain ⟨_, o, ho, _⟩ := K'.frames.mem z
          rw [x2] at ho; cases ho
      · cases z : (hideAll h (news.map (·.1))).get? q.1 with
        | none => rfl
        | some o => have := of_hideAll _ z; rw [x2] at this; cases this
    · refine ⟨hb (N q hq).1 fun hm => ?_, hideAll_none _ (List.mem_map_of_mem hq), fresh_of_stays K.stays (N q hq).2.2⟩
      obtain ⟨env, he', hf⟩ := List.mem_filterMap.mp hm
      rcases List.mem_cons.mp he' with rfl | he'
      · exact (N q hq).2.1 (Option.some.inj (hf'.symm.trans hf)).symm
      · obtain ⟨_, o, ho, _⟩ := K.frames.mem (List.mem_filterMap.mpr ⟨env, he', hf⟩)
        rw [(N q hq).2.2] at ho; cases ho
  · refine ⟨fun b o q => of_hideAll _ q, hideAll_none _ (.head _), ?_, oe, vs, he, hp, hd, h1⟩
    exact funFrames_hide (K'.frames.of_keeps fun b o q _ => ⟨o, keep b o q, rfl⟩) fun env he' b hf => .tail _ (List.mem_filterMap.mpr ⟨env, he', hf⟩)
  · exact Heap.UpToSlots.of_keeps fun b o q => keep b o (of_hideAll _ q)

theorem leaveOnP (hf' : env.frame = some L) (hP : Still P) (K : Below A base outer g) (F : Fr g L G m) (R : RaisedP base G (env :: outer) e P news s'.heap) (hsm : G.UpToSlots s'.heap)
    (hQ : ∀ h', RaisedP base g outer e P news h' → g.UpToSlots h' → Q () { s' with heap := h' }) :
    wpAny M (A.deeper env) (leaving env (.ref e)) Q E s' := by
  obtain ⟨B, st, hst, hB, hBG, hl, hx⟩ := R
  refine leaveP hP (Around.frames_deeper K.stack) hf' hst hx fun h' x' u => hQ h' ⟨B, _, .inr rfl, hB, fun b o q nm => hBG b o (F.keep b o q) fun hm => ?_, fun q hq => ⟨(hl q hq).1, kts_none F.keep (hl q hq).2.1, (hl q hq).2.2⟩, x'⟩
    ((Heap.UpToSlots.of_keeps F.keep).trans (hsm.trans u))
  rcases frame_mem hf' hm with z | z
  · rw [z, kts_self F] at q; cases q
  · exact nm z

end
end Mine
end
set_option compiler.extract_closed false
section
open PySem PySem.W PyProof.Rows PySem.Calls Builtin Builtin.ObjectAttr
set_option Elab.async false
set_option maxRecDepth 100000
set_option maxHeartbeats 8000000
namespace Mine
noncomputable abbrev excObj (cls : Value) (dx : Option Addr) (t : Addr) (tb : Value) : Obj := { cls := cls, dict := dx, data := .fields #[.ref t, tb, .none, .none, .bool false, .none] }
noncomputable abbrev faultCls : Obj := excClassObj "Fault" "Fault" 51 50 [.ref 24] [.ref 24, .type "Exception", .type "BaseException", .type "object"] true [] [] false none none (some (.ref 28)) none (some (.str "Fault" 211)) (some (.str "Fault" 219)) (some (.bool true)) "Exception.__new__"
noncomputable abbrev newFault (h : Heap) (c v : Value) : Heap := (h.push { cls := .type "tuple", data := .seq [c, v].toArray }).push (excObj (.ref 51) none h.objs.size .none)
theorem fault_at {w : World} {h : Heap} (X : (topH.heap_1 w.params).In h) : h.get? 51 = some faultCls := X _ _ (by kernel_rfl)
theorem make_fault {prog : Program} {w : World} {A : Around} {R : Result → Shared → Prop} {h : Heap} {g : Array GenState} {d : Drawn} {t : Nat} {os : OsState} {c v : Value} (X : (topH.heap_1 w.params).In h)
    (hq : codeAny (model prog w) (A.under (.builtin "type.__call__" ⟨[.ref 51, c, v], []⟩)) (.call (.ref 41) ⟨[.ref (h.objs.size + 1), c, v], []⟩) (InitBack (h.objs.size + 1) R) ⟨newFault h c v, g, d, t, os⟩) :
    codeAny (model prog w) A (.call (.ref 51) ⟨[c, v], []⟩) R ⟨h, g, d, t, os⟩ := by
  have hC := fault_at X
  have F := PySem.F.excBase_Exception
  have T : OwnTail h [.type "Exception", .type "BaseException", .type "object"] [.ref 24, .type "Exception", .type "BaseException", .type "object"] := tail_of_in X (by kernel_rfl)
  have call : Looks (model prog w) h (specialOf (.ref 51) "__call__") (some (.builtin "type.__call__")) := looks_specialIn X (by kernel_rfl)
  have typ : Looks (model prog w) h (isInstance (.ref 51) (.type "type")) true := looks_instIn X (by kernel_rfl)
  refine codeAny_of_tree ?_
  show wpAny _ _ (callAny (.ref 51) _) _ _ _
  refine nd_load hC ?_
  show wpAny _ _ (callAny.viaDunder (.ref 51) _) _ _ _
  unfold callAny.viaDunder
  refine wpAny_bind (call.at ?_)
  dsimp only
  rw [tc_bind]
  refine wpAny_bind (wpAny_pure (wpAny_bind (wpAny_pure ?_)))
  refine wpAny_pure (a := Fin.again (.call (.builtin "type.__call__") ⟨[.ref 51, c, v], []⟩)) (And.intro rfl ?_)
  refine codeAny_call_builtin_at (Code.quiet_builtin _ (by decide +kernel)) entry_typeCall (check_slot tc_kind tc_split typ (tc_args _ _ _) ?_)
  repeat (first | with_reducible refine wpAny_loadPart_at hC ?_ | with_reducible refine wpAny_madeBy_exc hC ?_ | wp_step)
  refine codeAny_call_builtin_code (Code.quiet_builtin _ F.quiet) (wpAny_check_new_subT F T hC ?_)
  refine codeAny_exc_new_subT F T hC ?_ (by show 2 ≤ sizeLine; rw [sizeLine_eq]; omega)
  show wpAny _ _ _ _ _ _
  have k : ∀ b o, h.get? b = some o → (newFault h c v).get? b = some o := fun b o e => Heap.get?_push_of_some _ (Heap.get?_push_of_some _ e)
  have hx : (newFault h c v).get? (h.objs.size + 1) = some (excObj (.ref 51) none h.objs.size .none) := by heap_get
  have X' := X.keeps k
  have t1 : Looks (model prog w) (newFault h c v) (typeOf (.ref (h.objs.size + 1))) (.ref 51) := (Looks.ld hx).andThen .now
  have s1 : Looks (model prog w) (newFault h c v) (isSubtype (.ref 51) (.ref 51)) true := looks_mroIn X' (by kernel_rfl)
  have i1 : Looks (model prog w) (newFault h c v) (typeLookup (.ref 51) "__init__") (some (.ref 41)) := looks_findIn X' (by kernel_rfl)
  have b1 : Looks (model prog w) (newFault h c v) (bindSpecial (.ref 41) (.ref (h.objs.size + 1))) (.ref 41, [.ref (h.objs.size + 1)]) := bind_fn X' _ (by kernel_rfl)
  unfold isInstance callSpecial? specialOf
  repeat (first | with_reducible refine wpAny_call ?_ | lk)
  refine codeAny_mono hq fun r s' z => ?_
  rcases r with e | (v | _ | _ | _) <;> first | exact z | exact z.elim | skip
  obtain ⟨rfl, z⟩ := z
  exact wpAny_pure (wpAny_pure z)
end Mine
namespace Mine
theorem nsSet_new {prog : Program} {w : World} {A : Around} {E : Value → Shared → Prop} {s : Shared} {d : Addr} {es : List DictEntry} {n : Nat} {k : Str} {v : Value} {Q : Unit → Shared → Prop} (D : s.heap.get? d = some (dictOf es n))
    (e1 : es.any (·.key.isStr k) = false) (e2 : es.any (·.refKey) = false) (hz : es.length ≤ 100)
    (h : ∀ h', h'.get? d = some (dictOf (es ++ [⟨PyData.keyHash w.params k, .str k s.toks, v⟩]) (n + 1)) → (∀ b, b ≠ d → h'.get? b = s.heap.get? b) → Q () { s with heap := h', toks := s.toks + 1 }) :
    wpAny (model prog w) A (nsSet d k v >>= fun _ => lookBehind d (some (.str k 0))) Q E s := by
  have e : Obj.putName k (PyData.keyHash w.params k) (.str k s.toks) v (dictOf es n) = dictOf (es ++ [⟨PyData.keyHash w.params k, .str k s.toks, v⟩]) (n + 1) := by
    rw [putName_dict, putL_new (fun x hx => by
      cases q : x.key.isStr k with
      | false => rfl
      | true => rw [List.any_eq_true.mpr ⟨x, hx, q⟩] at e1; cases e1)]
    show dictOf _ (if es.any (·.key.isStr k) then n else n + 1) = _
    rw [e1, if_neg Bool.false_ne_true]
  have c : aRefKeyMayBeTheName k es.toArray = false := by
    rw [aRefKeyMayBeTheName_at, ← Array.any_toList, ← Array.any_toList]
    show (!es.any (·.key.isStr k) && es.any (·.refKey)) = false
    rw [e2, Bool.and_false]
  have U : (s.heap.update d (Obj.putName k (PyData.keyHash w.params k) (.str k s.toks) v)).get? d = some (dictOf (es ++ [⟨PyData.keyHash w.params k, .str k s.toks, v⟩]) (n + 1)) := by
    rw [← e]; exact Heap.get?_update_self _ D (by rw [e]; rfl)
  refine wpAny_bind ?_
  unfold nsSet
  refine wpAny_bind (wpAny_bind (wpAny_askSetting (wpAny_pure (wpAny_bind (wpAny_mkText (wpAny_bind (wpAny_loadPart D ?_)))))))
  dsimp only
  rw [c]
  refine wpAny_updatePart D ?_
  refine wpAny_lookBehind U (pastItsLine_dict (by simp [sizeLine_eq]; omega)) ?_
  exact h _ U fun b hb => Heap.get?_update_ne _ _ _ _ hb
end Mine
namespace Mine
noncomputable abbrev faultCd : ClassData := { name := "Fault", bases := [.ref 24], mro := [.ref 51, .ref 24, .type "Exception", .type "BaseException", .type "object"], ns := 50, qualname := "Fault" }
theorem cd_at (w : World) : clsIn (topH.heap_1 w.params) 51 = some faultCd := by kernel_rfl
theorem storeIn_exc {prog : Program} {w : World} {A : Around} {E : Value → Shared → Prop} {s : Shared} {d : Addr} {es : List DictEntry} {n : Nat} {k : Str} {tk : Tok} {v : Value} {Q : PySem.Fin → Shared → Prop} (D : s.heap.get? d = some (dictOf es n))
    (e1 : es.any (·.key.isStr k) = false) (e2 : es.any (·.refKey) = false) (hz : es.length ≤ 100)
    (h : ∀ h', h'.get? d = some (dictOf (es ++ [⟨PyData.keyHash w.params k, .str k s.toks, v⟩]) (n + 1)) → (∀ b, b ≠ d → h'.get? b = s.heap.get? b) → Q (.done (.ret .none)) { s with heap := h', toks := s.toks + 1 }) :
    wpAny (model prog w) A (storeInDict d (.str k tk) k v) Q E s := by
  unfold storeInDict newKeyGuard
  refine wpAny_bind (wpAny_pure ?_)
  have z := nsSet_new (prog := prog) (w := w) (A := A) (E := E) (s := s) (v := v) (Q := fun _ => Q (.done (.ret .none))) D e1 e2 hz h
  have e : ∀ (a b : Sem Unit) (c : Sem PySem.Fin), (a >>= fun _ => b >>= fun _ => c) = ((a >>= fun _ => b) >>= fun _ => c) := fun a b c => by simp only [bind_assoc]
  rw [e]
  exact wpAny_bind (wpAny_mono z (fun _ _ q => wpAny_pure q) fun _ _ q => q)
theorem osa_exc {prog : Program} {w : World} {A : Around} {R : Result → Shared → Prop} {s : Shared} {e : Addr} {ox : Obj} {od : Option Obj} {name : Str} {tk : Tok} {v : Value} (X : (topH.heap_1 w.params).In s.heap) (I : InstAt s.heap e ox 51 od)
    (ha : findIn (topH.heap_1 w.params) (.ref 51) name = some none)
    (h : ∀ b, wpAny (model prog w) A.in1 (storeInOwnDict (.ref e) (.ref 51) (.str name tk) name v b)
      (fun fin s' => match fin with | .done f => R (.ok f) s' | .again c' => c'.quiet = true ∧ codeAny (model prog w) A c' R s') (fun e s' => R (.error e) s') s) :
    codeAny (model prog w) A (.call (.builtin "object.__setattr__") ⟨[.ref e, .str name tk, v], []⟩) R s := by
  have SF := PySem.F.store_object
  have sub : Looks (model prog w) s.heap (isInstance (.ref e) (.type "object")) true := I.type.andThen (looks_mroIn X (by kernel_rfl))
  refine codeAny_call_builtin SF.slot.plain SF.entry (@check_slot (model prog w) _ _ s "object.__setattr__" "object" "__setattr__" (.ref e) [.str name tk, v] [] _ SF.kind SF.split sub (SF.args (.ref e) (.str name tk) v) ?_)
  have hm : Looks (model prog w) s.heap (mroOf (.ref 51)) [.ref 51, .ref 24, .type "Exception", .type "BaseException", .type "object"] := (looks_clsIn X (cd_at w)).andThen .now
  rw [osa_eq, refuse_eq]
  refine wpAny_bind (wpAny_bind (I.type.here (wpAny_bind (hm.here ?_))))
  rw [refuseLoop_ref, refuseLoop_ref, PySem.F.store_Exception.passes]
  exact wpAny_pure (wpAny_bind (I.type.here (wpAny_bind ((looks_findIn X ha).here (wpAny_bind (wpAny_pure (h _)))))))
theorem set_first {prog : Program} {w : World} {A : Around} {E : Value → Shared → Prop} {s : Shared} {e t : Addr} {tb v : Value} {name : Str} {Q : Unit → Shared → Prop} (X : (topH.heap_1 w.params).In s.heap) (hx : s.heap.get? e = some (excObj (.ref 51) none t tb))
    (ha : findIn (topH.heap_1 w.params) (.ref 51) name = some none)
    (h : ∀ dx h', s.heap.get? dx = none → h'.get? e = some (excObj (.ref 51) (some dx) t tb) → h'.get? dx = some (dictOf [⟨PyData.keyHash w.params name, .str name (s.toks + 1), v⟩] 1) → (∀ b o, b ≠ e → s.heap.get? b = some o → h'.get? b = some o) →
      Q () { s with heap := h', toks := s.toks + 2 }) :
    wpAny (model prog w) A (setAttr (.ref e) name v) Q E s := by
  have I : InstAt s.heap e (excObj (.ref 51) none t tb) 51 none := ⟨hx, rfl, rfl, trivial⟩
  refine set_plain X I (by kernel_rfl) (osa_exc X I ha fun b => ?_)
  have nx : e ≠ s.heap.objs.size := Nat.ne_of_lt (Heap.lt_size hx)
  obtain ⟨hh, g, d, tk, os⟩ := s
  have hc : Looks (model prog w) hh (classData 51) faultCd := looks_clsIn X (cd_at w)
  have hx' : (hh.push emptyDict).get? e = some (excObj (.ref 51) none t tb) := Heap.get?_push_of_some _ hx
  have hu : ((hh.push emptyDict).update e fun o => { cls := o.cls, dict := some hh.objs.size, data := o.data, slots := o.slots }).get? e = some (excObj (.ref 51) (some hh.objs.size) t tb) := Heap.get?_update_self _ hx' rfl
  have hd : ((hh.push emptyDict).update e fun o => { cls := o.cls, dict := some hh.objs.size, data := o.data, slots := o.slots }).get? hh.objs.size = some (dictOf [] 0) := (Heap.get?_update_ne _ _ _ _ nx.symm).trans (Heap.get?_push_at rfl rfl)
  refine wpAny_bind (wpAny_pure (wpAny_bind (wpAny_bind (wpAny_loadPart hx (wpAny_bind (hc.here ?_))))))
  refine wpAny_bind (wpAny_alloc (wpAny_bind (wpAny_update hx' (wpAny_pure ?_))))
  refine storeIn_exc hd rfl rfl (by decide) fun h' q1 q2 => ?_
  exact h _ _ (Heap.get?_none_of_le (Nat.le_refl _)) ((q2 e nx).trans hu) q1 fun b o hb q => (q2 b (Nat.ne_of_lt (Heap.lt_size q))).trans ((Heap.get?_update_ne _ _ _ _ hb).trans (Heap.get?_push_of_some _ q))
theorem set_next {prog : Program} {w : World} {A : Around} {E : Value → Shared → Prop} {s : Shared} {e t dx : Addr} {tb v : Value} {name : Str} {es : List DictEntry} {n : Nat} {Q : Unit → Shared → Prop} (X : (topH.heap_1 w.params).In s.heap) (hx : s.heap.get? e = some (excObj (.ref 51) (some dx) t tb))
    (hd : s.heap.get? dx = some (dictOf es n)) (e1 : es.any (·.key.isStr name) = false) (e2 : es.any (·.refKey) = false) (hz : es.length ≤ 100)
    (ha : findIn (topH.heap_1 w.params) (.ref 51) name = some none)
    (h : ∀ h', h'.get? dx = some (dictOf (es ++ [⟨PyData.keyHash w.params name, .str name (s.toks + 1), v⟩]) (n + 1)) → (∀ b, b ≠ dx → h'.get? b = s.heap.get? b) → Q () { s with heap := h', toks := s.toks + 2 }) :
    wpAny (model prog w) A (setAttr (.ref e) name v) Q E s := by
  have I : InstAt s.heap e (excObj (.ref 51) (some dx) t tb) 51 (some (dictOf es n)) := ⟨hx, rfl, rfl, hd⟩
  refine set_plain X I (by kernel_rfl) (osa_exc X I ha fun b => ?_)
  obtain ⟨hh, g, d, tk, os⟩ := s
  have hc : Looks (model prog w) hh (classData 51) faultCd := looks_clsIn X (cd_at w)
  refine wpAny_bind (wpAny_pure (wpAny_bind (wpAny_bind (wpAny_loadPart hx (wpAny_bind (hc.here ?_))))))
  exact wpAny_pure (storeIn_exc hd e1 e2 hz h)
end Mine
namespace Mine
theorem init_exc {prog : Program} {w : World} {A : Around} {E : Value → Shared → Prop} {s : Shared} {e t0 : Addr} {tb : Value} {Q : Value → Shared → Prop} (X : (topH.heap_1 w.params).In s.heap) (he : s.heap.get? e = some (excObj (.ref 51) none t0 tb))
    (h : ∀ t h', s.heap.get? t = none → h'.get? e = some (excObj (.ref 51) none t tb) → h'.get? t = some { cls := .type "tuple", data := .seq #[] } → (∀ b o, b ≠ e → s.heap.get? b = some o → h'.get? b = some o) → Q .none { s with heap := h' }) :
    wpAny (model prog w) A (call (.builtin "Exception.__init__") [.ref e]) Q E s := by
  obtain ⟨hh, g, d, tk, os⟩ := s
  have F := PySem.F.excBase_Exception
  have hC := fault_at X
  have T : OwnTail hh [.type "Exception", .type "BaseException", .type "object"] [.ref 24, .type "Exception", .type "BaseException", .type "object"] := tail_of_in X (by kernel_rfl)
  have nx : e ≠ hh.objs.size := Nat.ne_of_lt (Heap.lt_size he)
  refine wpAny_call (codeAny_call_builtin F.init.plain F.initEntry (wpAny_check_init_subT F T hC he rfl ?_))
  wp_walk
  refine h hh.objs.size _ (Heap.get?_none_of_le (Nat.le_refl _)) ?_ ?_ fun b o hb q => ?_
  · exact Heap.get?_update_self _ (Heap.get?_push_of_some _ he) rfl
  · exact (Heap.get?_update_other _ _ nx).trans (Heap.get?_push_at rfl rfl)
  · exact (Heap.get?_update_other _ _ (Ne.symm hb)).trans (Heap.get?_push_of_some _ q)
theorem find_init (w : World) : findCls (topH.heap_1 w.params) (.ref 24) (.type "type") "__init__" = some (.val (.builtin "Exception.__init__")) := by kernel_rfl
theorem cls_init {prog : Program} {w : World} {A : Around} {E : Value → Shared → Prop} {s : Shared} {pl : Sem Bool} {Q : Value × List Value → Shared → Prop} (X : (topH.heap_1 w.params).In s.heap) (h : Q (.builtin "Exception.__init__", []) { s with toks := s.toks + 1 }) :
    wpAny (model prog w) A (getMethod (.ref 24) "__init__" pl) Q E s :=
  method_cls X (by kernel_rfl) (cls_value X (by kernel_rfl) (find_init w) rfl h)
end Mine
namespace Mine
noncomputable abbrev faultDict (w : World) (t1 t2 : Nat) (c v : Value) : Obj := dictOf [⟨PyData.keyHash w.params "faultCode", .str "faultCode" t1, c⟩, ⟨PyData.keyHash w.params "faultString", .str "faultString" t2, v⟩] 2
theorem no_limit {w : World} {h : Heap} (X : (topH.heap_1 w.params).In h) : h.NoLimit := ⟨_, .of_isNs (isNs_of_in X (by kernel_rfl)), nsMap_none_of_in X (by kernel_rfl) (by kernel_rfl)⟩
theorem kept {h h₁ : Heap} {o o' : Obj} (hs : Heap.SameBut (h.push o).objs.size ((h.push o).push o') h₁) : ∀ b x, h.get? b = some x → h₁.get? b = some x := fun b x q =>
  hs.extBut b x (Nat.ne_of_lt (Nat.lt_trans (Heap.lt_size q) (by rw [Heap.size_push]; exact Nat.lt_succ_self _))) (Heap.get?_push_of_some _ (Heap.get?_push_of_some _ q))
theorem kept_ns {h h' : Heap} {L e : Addr} {m : Str → Option Value} (hn : h.Ns L m) (ne : L ≠ e) (k : ∀ b o, b ≠ e → h.get? b = some o → h'.get? b = some o) : h'.Ns L m :=
  let ⟨o, es, ep, q, r⟩ := hn; ⟨o, es, ep, k _ _ ne q, r⟩
theorem init_fault {prog : Program} {w : World} {A : Around} {R : Result → Shared → Prop} {s : Shared} {e t0 : Addr} {c v : Value} (X : (topH.heap_1 w.params).In s.heap) (he : s.heap.get? e = some (excObj (.ref 51) none t0 .none)) (hA : A.depth < recursionLimit)
    (hX : ∀ b o, (topH.heap_1 w.params).lookup b = some o → b ≠ e)
    (h : ∀ t dx h' tk t1 t2, s.heap.get? t = none → s.heap.get? dx = none → t ≠ dx → h'.get? e = some (excObj (.ref 51) (some dx) t .none) → h'.get? t = some { cls := .type "tuple", data := .seq #[] } → h'.get? dx = some (faultDict w t1 t2 c v) →
      (∀ b o, b ≠ e → s.heap.get? b = some o → h'.get? b = some o) → R (.ok (.ret .none)) { s with heap := h', toks := tk }) :
    codeAny (model prog w) A (.call (.ref 41) ⟨[.ref e, c, v], []⟩) R s := by
  obtain ⟨hh, g, d, tk, os⟩ := s
  dsimp only at X he h
  refine codeAny_call_function hA (X 41 _ rfl) rfl rfl rfl rfl (codeRec_of X (by kernel_rfl)) ?_
  rw [show bindArgs _ ⟨[.ref e, c, v], []⟩ = (alloc emptyDict >>= fun D => pure ([("self", .ref e), ("faultCode", c), ("faultString", v), ("extra", .ref D)] : List (Str × Value))) from by kernel_rfl]
  refine wpAny_bind (wpAny_alloc (wpAny_pure ?_))
  refine wpAny_newFunctionEnv (by decide) (by intro x hx; simp at hx; rcases hx with rfl | rfl | rfl | rfl <;> rfl) (fun h₁ hn hs => ⟨(no_limit X).keeps (kept hs), codeAny_func ?_⟩) rfl
  have k₁ := kept hs
  have X₁ := X.keeps k₁
  have he₁ := k₁ _ _ he
  dsimp only at hn ⊢
  have le : e ≠ (hh.push emptyDict).objs.size := Nat.ne_of_lt (Nat.lt_trans (Heap.lt_size he) (by rw [Heap.size_push]; exact Nat.lt_succ_self _))
  clear hs
  refine wpAny_mono (E := fun _ _ => False) ?_ (fun _ _ q => q) fun _ _ q => q.elim
  show wpAny _ (A.deeper (envX "Fault.__init__" _ _ 41 (.ref 40) [])) (execs _ (envX "Fault.__init__" _ (hh.push emptyDict).objs.size 41 (.ref 40) [])) _ _ _
  generalize hv : envX "Fault.__init__" _ _ 41 (.ref 40) [] = env
  have ks : env.scope.kind = .function := hv ▸ rfl
  have kS : env.kindOf "self" = some .local := hv ▸ rfl
  have kC : env.kindOf "faultCode" = some .local := hv ▸ rfl
  have kV : env.kindOf "faultString" = some .local := hv ▸ rfl
  have kE : env.kindOf "Error" = some .globalImplicit := hv ▸ rfl
  have hL : env.locals = (hh.push emptyDict).objs.size := hv ▸ rfl
  have hG : env.globals = mainGlobals := hv ▸ rfl
  have kI : interactive env = false := hv ▸ rfl
  clear hv
  rw [← hL] at hn le
  clear hL
  generalize A.deeper env = B
  generalize tk + _ = tk
  have G : h₁.Ns env.globals _ := hG ▸ Heap.Ns.of_isNs (isNs_of_in X₁ (N := mainGlobals) (by kernel_rfl))
  refine wpAny_execs_cons (wpAny_Expr (MethodCall_ (Name_function_global ks kE (loadGlobal_global (env := env) G (v := .ref 24) ?g1 ?_) (by decide))) kI)
  case g1 => rw [hG]; exact mg_of X₁ (.of_isNs (isNs_of_in X₁ (by kernel_rfl))) (by kernel_rfl)
  refine cls_init X₁ (callWith_builtin1 (wpAny_Name (wpAny_loadName_local ks kS hn rfl (init_exc X₁ he₁ fun t h₂ nt he₂ ht₂ k₂ => ?_)) (by decide)))
  have X₂ : (topH.heap_1 w.params).In h₂ := fun b o q => k₂ b o (hX b o q) (X₁ b o q)
  have hn₂ := kept_ns hn (Ne.symm le) k₂
  dsimp only
  refine wpAny_execs_cons (plainObj_wpAny_Assign_Attribute (wpAny_Name (wpAny_loadName_local ks kC hn₂ rfl (wpAny_Name (wpAny_loadName_local ks kS hn₂ rfl (set_first X₂ he₂ (by kernel_rfl) fun dx h₃ nd he₃ hd₃ k₃ => ?_)) (by decide))) (by decide)))
  have X₃ : (topH.heap_1 w.params).In h₃ := fun b o q => k₃ b o (hX b o q) (X₂ b o q)
  have hn₃ := kept_ns hn₂ (Ne.symm le) k₃
  dsimp only
  refine wpAny_execs_cons (plainObj_wpAny_Assign_Attribute (wpAny_Name (wpAny_loadName_local ks kV hn₃ rfl (wpAny_Name (wpAny_loadName_local ks kS hn₃ rfl (set_next X₃ he₃ hd₃ rfl rfl (show 1 ≤ 100 from by decide) (by kernel_rfl) fun h₄ hd₄ k₄ => ?_)) (by decide))) (by decide)))
  have nt' := nt
  have q1 : t ≠ e := fun z => by rw [z, he₁] at nt'; cases nt'
  have q2 : e ≠ dx := fun z => by rw [← z, he₂] at nd; cases nd
  have q3 : t ≠ dx := fun z => by rw [← z, ht₂] at nd; cases nd
  have q4 : ∀ b o, b ≠ e → hh.get? b = some o → h₂.get? b = some o := fun b o z q => k₂ b o z (k₁ b o q)
  have q5 : ∀ b o, b ≠ e → hh.get? b = some o → b ≠ dx := fun b o z q y => by have := q4 b o z q; rw [y, nd] at this; cases this
  refine wpAny_pure (h t dx h₄ _ _ _ ?_ ?_ q3 ((k₄ e q2).trans he₃) ((k₄ t q3).trans (k₃ t _ q1 ht₂)) hd₄ fun b o z q => (k₄ b (q5 b o z q)).trans (k₃ b o z (q4 b o z q)))
  · cases z : hh.get? t with
    | none => rfl
    | some o => rw [k₁ t o z] at nt'; cases nt'
  · cases z : hh.get? dx with
    | none => rfl
    | some o => rw [q4 dx o (Ne.symm q2) z] at nd; cases nd
end Mine
namespace Mine
theorem fault_X (w : World) (s : Shared) (KX : (topH.heap_1 w.params).In s.heap) (c v : Value) (envs : List Env) (gd : Option (List Code)) (Q E : Value → Shared → Prop)
   (hQ : ∀ (e t dx : Addr) (h' : Heap) (tk t1 t2 : Nat), (∀ b o, s.heap.get? b = some o → h'.get? b = some o) → h'.get? e = some (excObj (.ref 51) (some dx) t .none) → h'.get? t = some { cls := .type "tuple", data := .seq #[] } → h'.get? dx = some (faultDict w t1 t2 c v) →
     (s.heap.get? e = none ∧ s.heap.get? t = none ∧ s.heap.get? dx = none ∧ t ≠ e ∧ dx ≠ e ∧ dx ≠ t) → Q (.ref e) { s with heap := h', toks := tk }) :
   wpAny (model PySem.Challenge.rw_kn0109_04.row.prog w) ({ handled := none, depth := 500, frames := some envs, guards := gd, units := 500 }) (call (.ref 51) [c, v]) Q E s := by
  obtain ⟨h, g, d, tk, os⟩ := s
  have k : ∀ b o, h.get? b = some o → (newFault h c v).get? b = some o := fun b o e => Heap.get?_push_of_some _ (Heap.get?_push_of_some _ e)
  have low : ∀ b o, h.get? b = some o → b ≠ h.objs.size + 1 := fun b o e => Nat.ne_of_lt (Nat.lt_succ_of_lt (Heap.lt_size e))
  have hx : (newFault h c v).get? (h.objs.size + 1) = some (excObj (.ref 51) none h.objs.size .none) := by heap_get
  have none_of : ∀ b, (newFault h c v).get? b = none → h.get? b = none := fun b q => by
    cases z : h.get? b with
    | none => rfl
    | some o => rw [k b o z] at q; cases q
  have ne_of : ∀ b, (newFault h c v).get? b = none → b ≠ h.objs.size + 1 := fun b q z => by rw [z, hx] at q; cases q
  refine wpAny_call (make_fault KX (init_fault (KX.keeps k) hx (show 501 < recursionLimit from by decide) (fun b o q => low b o (KX b o q)) fun t dx h' tk t1 t2 nt nd ne a b c' e => ?_))
  exact ⟨rfl, hQ _ t dx h' tk t1 t2 (fun b o q => e b o (low b o q) (k b o q)) a b c' ⟨Heap.get?_none_of_le (Nat.le_succ _), none_of t nt, none_of dx nd, ne_of t nt, ne_of dx nd, Ne.symm ne⟩⟩
end Mine
namespace Mine
theorem weaken {α : Type} {M : Model} {A A' : Around} {t : Sem α} {Q : α → Shared → Prop} {E : Value → Shared → Prop} {s : Shared} (h : wpAny M A' t Q E s) (h1 : A.handled = A'.handled) (h2 : A.depth ≤ A'.depth)
    (h3 : A.frames = A'.frames) (h4 : A.guards = A'.guards) (h5 : A.units ≤ A'.units) : wpAny M A t Q E s := fun Γ p hΓ =>
  h Γ p ⟨hΓ.1.trans h1, Nat.le_trans hΓ.2.1 h2, fun l hl => hΓ.2.2.1 l (h3.trans hl), fun g hg => hΓ.2.2.2.1 g (h4.trans hg), Nat.le_trans hΓ.2.2.2.2 h5⟩
end Mine
end
section
open PySem PySem.W PyProof.Rows PySem.Calls
set_option Elab.async false
set_option maxRecDepth 100000
set_option maxHeartbeats 400000
namespace Mine
theorem exc_open {prog : Program} {w : World} {A : Around} {E : Value → Shared → Prop} {s : Shared} {K : Frag} {x C : Addr} {ox : Obj} {od : Option Obj} {name : Str} {expr : Bool} {Q : Value → Shared → Prop} (X : K.In s.heap) (I : InstAt s.heap x ox C od)
    (hga : findIn K (.ref C) "__getattribute__" = some (some (.builtin "BaseException.__getattribute__"))) (hgb : findIn K (.ref C) "__getattr__" = some none)
    (h : wpAny (model prog w) A (call (.builtin "BaseException.__getattribute__") [.ref x, .str name s.toks]) (fun v s' => handedIn v = true ∧ Q v s') (fun _ _ => False) { s with toks := s.toks + 1 }) :
    wpAny (model prog w) A (getAttr (.ref x) name expr) Q E s := by
  obtain ⟨hh, g, d, t, os⟩ := s
  have L0 := I.type (M := model prog w)
  have L1 := looks_findIn (M := model prog w) X hga
  have L2 := looks_findIn (M := model prog w) X hgb
  have FX : ExcAttrFacts "ValueError" := PySem.F.excAttr_ValueError
  unfold getAttr getAttrBy
  refine wpAny_bind (wpAny_mkText (wpAny_holding (wpAny_bind (L0.at (wpAny_bind (L1.at ?_))))))
  show wpAny _ _ (getAttrByItsOwn _ _ _ _ _ _) _ _ _
  unfold getAttrByItsOwn
  refine wpAny_bind (show wpAny _ _ (hookBefore (.ref C)) _ _ _ from ?_)
  refine L2.at ?_
  have f3 := FX.ga.bind (.ref x)
  refine wpAny_bind (wpAny_attempt (wpAny_holding ?_))
  unfold callGetattribute
  rw [show (expr && onTheHeap (Value.builtin "BaseException.__getattribute__")) = false from by cases expr <;> rfl]
  show wpAny _ _ (boundAndCalled _ _ _) _ _ _
  unfold boundAndCalled
  refine wpAny_bind ?_
  rw [f3]
  refine wpAny_pure ?_
  refine wpAny_mono h (fun v s' z => ?_) fun _ _ (z : False) => z.elim
  show wpAny _ _ (handedOut v) _ _ _
  rw [handedOut_of z.1]
  exact wpAny_pure z.2
theorem inst_X {h : Heap} {e dx t : Addr} {tb : Value} {o : Obj} (he : h.get? e = some (excObj (.ref 51) (some dx) t tb)) (hd : h.get? dx = some o) : InstAt h e (excObj (.ref 51) (some dx) t tb) 51 (some o) := by
  constructor <;> first | assumption | rfl | exact ⟨_, rfl, hd⟩
theorem exc_get {w : World} {s : Shared} (KX : (topH.heap_1 w.params).In s.heap) {e dx t : Addr} {tb : Value} {o : Obj} {c : Value} {A : Around} {name : Str} (Q E : Value → Shared → Prop)
   (he : s.heap.get? e = some (excObj (.ref 51) (some dx) t tb)) (hd : s.heap.get? dx = some o) (hf : findObj (topH.heap_1 w.params) 51 (some o) name = some (.value c))
   (hc : handedIn c = true) (post : Q c { s with toks := s.toks + 1 }) :
   wpAny (model PySem.Challenge.rw_kn0109_04.row.prog w) A (getAttr (.ref e) name true) Q E s := by
  refine exc_open KX (inst_X he hd) (by kernel_rfl) (by kernel_rfl) ?_
  have I := inst_X he hd
  have sub : Looks (model PySem.Challenge.rw_kn0109_04.row.prog w) s.heap (isInstance (.ref e) (.type "BaseException")) true := I.type.andThen (looks_mroIn KX (by kernel_rfl))
  have L1 := looks_find (M := model PySem.Challenge.rw_kn0109_04.row.prog w) KX I hf
  have FX : ExcAttrFacts "ValueError" := PySem.F.excAttr_ValueError
  refine wpAny_call (codeAny_call_builtin FX.ga.plain PySem.F.entry_bexc_ga (@check_slot (model _ w) _ _ _ _ "BaseException" "__getattribute__" _ [_] [] _ (by decide +kernel) (by decide +kernel) sub (PySem.F.args_bexc_ga _ _) ?_))
  obtain ⟨hh, g, d, tk, os⟩ := s
  have L0 := I.type (M := model PySem.Challenge.rw_kn0109_04.row.prog w)
  refine wpAny_bind (wpAny_pure (wpAny_bind (wpAny_pure (wpAny_bind (L0.at (wpAny_bind (L1.at ?_)))))))
  refine wpAny_pure ?_
  exact ⟨hc, post⟩
theorem find_code (w : World) {t1 t2 : Nat} {c v : Value} : findObj (topH.heap_1 w.params) 51 (some (faultDict w t1 t2 c v)) "faultCode" = some (.value c) := by kernel_rfl
theorem find_string (w : World) {t1 t2 : Nat} {c v : Value} : findObj (topH.heap_1 w.params) 51 (some (faultDict w t1 t2 c v)) "faultString" = some (.value v) := by kernel_rfl
theorem exc_code (w : World) (s : Shared) (KX : (topH.heap_1 w.params).In s.heap) {e dx t : Addr} {tb : Value} {t1 t2 : Nat} {c v : Value} {A : Around} (envs : List Env) (_ : A.frames = some envs) (Q E : Value → Shared → Prop)
   (he : s.heap.get? e = some (excObj (.ref 51) (some dx) t tb)) (hd : s.heap.get? dx = some (faultDict w t1 t2 c v)) (_ : A.depth ≤ 400) (_ : A.units ≤ 400)
   (hc : handedIn c = true) (post : Q c { s with toks := s.toks + 1 }) :
   wpAny (model PySem.Challenge.rw_kn0109_04.row.prog w) A (getAttr (.ref e) "faultCode" true) Q E s := exc_get KX Q E he hd (find_code w) hc post
theorem exc_string (w : World) (s : Shared) (KX : (topH.heap_1 w.params).In s.heap) {e dx t : Addr} {tb : Value} {t1 t2 : Nat} {c v : Value} {A : Around} (envs : List Env) (_ : A.frames = some envs) (Q E : Value → Shared → Prop)
   (he : s.heap.get? e = some (excObj (.ref 51) (some dx) t tb)) (hd : s.heap.get? dx = some (faultDict w t1 t2 c v)) (_ : A.depth ≤ 400) (_ : A.units ≤ 400)
   (hc : handedIn v = true) (post : Q v { s with toks := s.toks + 1 }) :
   wpAny (model PySem.Challenge.rw_kn0109_04.row.prog w) A (getAttr (.ref e) "faultString" true) Q E s := exc_get KX Q E he hd (find_string w) hc post
end Mine
end
section
open PySem PySem.W PyProof.Rows PySem.Calls
set_option Elab.async false
set_option maxRecDepth 100000
set_option maxHeartbeats 8000000
namespace Mine

/-- landed in the frame at hand: no flight mark, all else as it was -/
def RaisedL (base G : Heap) (l : List Env) (e : Addr) (P : Obj → Prop) (news : List (Addr × Obj)) (h : Heap) : Prop :=
  ∃ B, base.StaysIn B ∧ (∀ b o, G.get? b = some o → b ∉ l.filterMap (·.frame) → B.get? b = some o) ∧
    (∀ q ∈ news, B.get? q.1 = some q.2 ∧ G.get? q.1 = none ∧ base.get? q.1 = none) ∧ ExcIn B l e P (some .none) h

section
variable {prog : Program} {w : World} {A₀ A' : Around} {E : Value → Shared → Prop} {s' : Shared} {base g g₀ G : Heap} {outer : List Env} {L a e : Addr} {m : Str → Option Value} {name : Str} {scope : Scope} {cd cls c : Value}
  {n : Str} {b₀ : Stmt} {suite : List Stmt} {nm : Option Str} {body : List Stmt} {x : Str} {pos np : Pos} {rest hs : List ExceptHandler} {Q : Flow → Shared → Prop} {news : List (Addr × Obj)} {KF : Frag} {P : Obj → Prop}
  {p : Program} {loose : List Str} {mean : ExcName → Option Value} {mg mb : Str → Option Value}

theorem land_start (hP : Still P) (K : Below A₀ base outer g) (R : RaisedP base G (envOf name scope L a cd :: outer) e P news s'.heap) (hsm : G.UpToSlots s'.heap)
    (k : ∀ h', RaisedL base G (envOf name scope L a cd :: outer) e P news h' → G.UpToSlots h' → wpAny (model prog w) (A₀.deeper (envOf name scope L a cd)) (handleBy (.ref e) (envOf name scope L a cd) hs) Q E { s' with heap := h' }) :
    wpAny (model prog w) (A₀.deeper (envOf name scope L a cd)) (noteFrame (.ref e) (envOf name scope L a cd))
      (fun _ s₂ => wpAny (model prog w) (A₀.deeper (envOf name scope L a cd)) (setFlight (.ref e) none) (fun _ s₃ =>
        wpAny (model prog w) (A₀.deeper (envOf name scope L a cd)) (handleBy (.ref e) (envOf name scope L a cd) hs) Q E s₃) E s₂) E s' := by
  obtain ⟨B, st, hst, hB, hBG, hl, hx⟩ := R
  refine noteP hP (Around.frames_deeper K.stack) rfl hst hx fun h₁ x₁ u₁ => ?_
  exact flightP x₁ fun h₂ x₂ u₂ => k h₂ ⟨B, hB, hBG, hl, x₂⟩ (hsm.trans (u₁.trans u₂))

theorem RaisedL.ground (R : RaisedL base G (envOf name scope L a cd :: outer) e P news s'.heap) (F : Fr g L G m) (K : Below A₀ base outer g) (hsm : G.UpToSlots s'.heap) :
    ∃ g', KtsTurn (outer.filterMap (·.frame)) g g' ∧ Fr g' L s'.heap m ∧ Below A₀ base outer g' := by
  obtain ⟨B, hB, hBG, hl, hx⟩ := R
  exact kts_ground K F hBG hx.1 hsm
theorem RaisedL.looks {M : Model} (R : RaisedL base G (envOf name scope L a cd :: outer) e P news s'.heap) (hcls : ∀ o, P o → o.cls = cls) : Looks M s'.heap (typeOf (.ref e)) cls := by
  obtain ⟨B, hB, hBG, hl, hb, hen, hf, oe, vs, he, hp, hd, ht⟩ := R
  have : Looks M s'.heap (typeOf (.ref e)) oe.cls := (Looks.ld he).andThen .now
  rwa [hcls oe hp] at this

/-- a clause that does not take it -/
theorem clause_no (R : RaisedL base G (envOf name scope L a cd :: outer) e P news s'.heap) (F : Fr g L G m) (K : Below A₀ base outer g) (hsm : G.UpToSlots s'.heap) (XB : KF.In base) (TB : Top p loose mean mg mb base)
    (hcls : ∀ o, P o → o.cls = cls)
    (ev : ∀ g₅, Fr g₅ L s'.heap m → KF.In g₅ → TopRead p loose mg mb g₅ → ∀ (Q' : Value → Shared → Prop) (E' : Value → Shared → Prop), Q' c s' → wpAny (model prog w) ((A₀.deeper (envOf name scope L a cd)).mark (some (.ref e))) (eval (.Name x np) (envOf name scope L a cd)) Q' E' s')
    (hx : exmOne KF cls c = some false)
    (h : wpAny (model prog w) (A₀.deeper (envOf name scope L a cd)) (handleBy (.ref e) (envOf name scope L a cd) rest) Q E s') :
    wpAny (model prog w) (A₀.deeper (envOf name scope L a cd)) (handleBy (.ref e) (envOf name scope L a cd) (.ExceptHandler (some (.Name x np)) nm body pos :: rest)) Q E s' := by
  obtain ⟨g₅, T₅, F₅, K₅⟩ := R.ground F K hsm
  have X₅ : KF.In g₅ := XB.keeps K₅.stays
  refine wpAny_handleBy_cons (codeAny_handlers_test (ev g₅ F₅ X₅ (topRead_of (TB.keeps K₅.stays)) _ _ ?_)) (by intro q; cases q)
  exact (exm_one (X₅.keeps F₅.keep) (R.looks hcls) hx).here h

theorem RaisedL.ledger (R : RaisedL base G (envOf name scope L a cd :: outer) e P news s'.heap) (F : Fr g L G m) (K : Below A₀ base outer g) (hsm : G.UpToSlots s'.heap) (T0 : KtsTurn (outer.filterMap (·.frame)) g₀ g) :
    ∃ g' oe, P oe ∧ KtsTurn (outer.filterMap (·.frame)) g₀ g' ∧ KtsTurn (outer.filterMap (·.frame)) g g' ∧ Fr g' L s'.heap m ∧ Below A₀ base outer g' ∧ News g' L s'.heap ((e, oe) :: news) ∧ ∀ q ∈ news, q.1 ≠ e := by
  obtain ⟨g', T', F', K'⟩ := R.ground F K hsm
  obtain ⟨B, hB, hBG, hl, hb, hen, hf, oe, vs, he, hp, hd, ht⟩ := R
  have hL : B.get? L = none := by
    obtain ⟨_, ⟨L', _, hf', hn', _⟩, _⟩ := hf
    obtain rfl : L = L' := Option.some.inj hf'
    exact hn'
  have ne' : g'.get? e = none := T'.none_ _ (kts_fresh F hBG hen fun o ho hm => by
    obtain ⟨_, o', ho', nd⟩ := K.frames.mem hm
    rw [ho] at ho'
    cases ho'
    obtain ⟨sl, q⟩ := hsm _ _ (F.keep _ _ ho) nd
    rw [he] at q
    cases q
    exact nd _ hd)
  refine ⟨g', oe, hp, T0.trans T', T', F', K', fun q hq => ?_, fun q hq z => by have := (hl q hq).1; rw [z, hen] at this; cases this⟩
  rcases List.mem_cons.mp hq with rfl | hq
  · refine ⟨he, fun z => ?_, ne'⟩
    obtain ⟨oL, es, ep, q1, q2, _⟩ := F'.ns
    have z' : e = L := z
    rw [← z', he] at q1
    cases q1
    rw [hd] at q2; cases q2
  · exact ⟨hb _ _ (hl q hq).1, (fun z => by have := (hl q hq).1; rw [z, hL] at this; cases this), T'.none_ _ (kts_none F.keep (hl q hq).2.1)⟩

/-- the clause that takes it, with a name -/
theorem clause_as (R : RaisedL base G (envOf name scope L a cd :: outer) e P news s'.heap) (F : Fr g L G m) (K : Below A₀ base outer g) (hsm : G.UpToSlots s'.heap) (XB : KF.In base) (TB : Top p loose mean mg mb base)
    (D : KtsDicts (outer.filterMap (·.frame)) g) (T0 : KtsTurn (outer.filterMap (·.frame)) g₀ g) (hcls : ∀ o, P o → o.cls = cls)
    (ev : ∀ g₅, Fr g₅ L s'.heap m → KF.In g₅ → TopRead p loose mg mb g₅ → ∀ (Q' : Value → Shared → Prop) (E' : Value → Shared → Prop), Q' c s' → wpAny (model prog w) ((A₀.deeper (envOf name scope L a cd)).mark (some (.ref e))) (eval (.Name x np) (envOf name scope L a cd)) Q' E' s')
    (hx : exmOne KF cls c = some true)
    (k : ∀ h' g' oe tk, P oe → (∀ q ∈ news, q.1 ≠ e) → KtsTurn (outer.filterMap (·.frame)) g₀ g' → Fr g' L h' (fun y => if y = n then some (.ref e) else m y) → News g' L h' ((e, oe) :: news) → Below A₀ base outer g' → KF.In g' → Top p loose mean mg mb g' → KtsDicts (outer.filterMap (·.frame)) g' →
      wpAny (model prog w) ((A₀.deeper (envOf name scope L a cd)).mark (some (.ref e))) (execs (b₀ :: suite) (envOf name scope L a cd))
        (fun f s₄ => wpAny (model prog w) (A₀.deeper (envOf name scope L a cd)) (do bindName (envOf name scope L a cd) n .none; unbindBehindTheSuite (envOf name scope L a cd) n pos) (fun _ s₅ => Q f s₅) E s₄)
        (AsSuiteRaised (model prog w) ((A₀.deeper (envOf name scope L a cd)).mark (some (.ref e))) (envOf name scope L a cd) n pos (notedBy (model prog w) ((A₀.deeper (envOf name scope L a cd)).mark (some (.ref e))) (envOf name scope L a cd) (cameBackBy (model prog w) (A₀.deeper (envOf name scope L a cd)) (envOf name scope L a cd) E)))
        { s' with heap := h', toks := tk })
    (hk : scope.kind = .function) (hlo : (envOf name scope L a cd).kindOf n = some .local) :
    wpAny (model prog w) (A₀.deeper (envOf name scope L a cd)) (handleBy (.ref e) (envOf name scope L a cd) (.ExceptHandler (some (.Name x np)) (some n) (b₀ :: suite) pos :: rest)) Q E s' := by
  obtain ⟨g₅, T₅, F₅, K₅⟩ := R.ground F K hsm
  have X₅ : KF.In g₅ := XB.keeps K₅.stays
  refine wpAny_handleBy_cons (codeAny_handlers_test (ev g₅ F₅ X₅ (topRead_of (TB.keeps K₅.stays)) _ _ ?_)) (by intro q; cases q)
  refine (exm_one (X₅.keeps F₅.keep) (R.looks hcls) hx).here ?_
  refine codeAny_handlers_suite_as ?_
  obtain ⟨B, hB, hBG, hl, hX⟩ := R
  refine flightP hX fun h₆ x₆ u₆ => ?_
  obtain ⟨g₆, oe, hp, T₆, T₆', F₆, K₆, N₆, fr⟩ := RaisedL.ledger (s' := { s' with heap := h₆ }) ⟨B, hB, hBG, hl, x₆⟩ F K (hsm.trans u₆) T0
  refine stN F₆ N₆ (fun h₇ F₇ N₇ => ?_) hk hlo
  exact k h₇ g₆ oe _ hp fr T₆ F₇ N₇ K₆ (XB.keeps K₆.stays) (TB.keeps K₆.stays) (D.turn T₆')

/-- the clause that takes it, without a name -/
theorem clause_plain (R : RaisedL base G (envOf name scope L a cd :: outer) e P news s'.heap) (F : Fr g L G m) (K : Below A₀ base outer g) (hsm : G.UpToSlots s'.heap) (XB : KF.In base) (TB : Top p loose mean mg mb base)
    (D : KtsDicts (outer.filterMap (·.frame)) g) (T0 : KtsTurn (outer.filterMap (·.frame)) g₀ g) (hcls : ∀ o, P o → o.cls = cls)
    (ev : ∀ g₅, Fr g₅ L s'.heap m → KF.In g₅ → TopRead p loose mg mb g₅ → ∀ (Q' : Value → Shared → Prop) (E' : Value → Shared → Prop), Q' c s' → wpAny (model prog w) ((A₀.deeper (envOf name scope L a cd)).mark (some (.ref e))) (eval (.Name x np) (envOf name scope L a cd)) Q' E' s')
    (hx : exmOne KF cls c = some true)
    (k : ∀ h' g' oe, P oe → (∀ q ∈ news, q.1 ≠ e) → KtsTurn (outer.filterMap (·.frame)) g₀ g' → Fr g' L h' m → News g' L h' ((e, oe) :: news) → Below A₀ base outer g' → KF.In g' → Top p loose mean mg mb g' → KtsDicts (outer.filterMap (·.frame)) g' →
      wpAny (model prog w) ((A₀.deeper (envOf name scope L a cd)).mark (some (.ref e))) (execs (b₀ :: suite) (envOf name scope L a cd)) Q E { s' with heap := h' })
    (hE : PassesOwnAt (model prog w) ((A₀.deeper (envOf name scope L a cd)).mark (some (.ref e))) (A₀.deeper (envOf name scope L a cd)) (envOf name scope L a cd) E := by passes_own) :
    wpAny (model prog w) (A₀.deeper (envOf name scope L a cd)) (handleBy (.ref e) (envOf name scope L a cd) (.ExceptHandler (some (.Name x np)) none (b₀ :: suite) pos :: rest)) Q E s' := by
  obtain ⟨g₅, T₅, F₅, K₅⟩ := R.ground F K hsm
  have X₅ : KF.In g₅ := XB.keeps K₅.stays
  refine wpAny_handleBy_cons (codeAny_handlers_test (ev g₅ F₅ X₅ (topRead_of (TB.keeps K₅.stays)) _ _ ?_)) (by intro q; cases q)
  refine (exm_one (X₅.keeps F₅.keep) (R.looks hcls) hx).here ?_
  refine codeAny_handlers_suite ?_
  obtain ⟨B, hB, hBG, hl, hX⟩ := R
  refine flightP hX fun h₆ x₆ u₆ => ?_
  obtain ⟨g₆, oe, hp, T₆, T₆', F₆, K₆, N₆, fr⟩ := RaisedL.ledger (s' := { s' with heap := h₆ }) ⟨B, hB, hBG, hl, x₆⟩ F K (hsm.trans u₆) T0
  exact wpAny_passesOwnAt hE (k h₆ g₆ oe hp fr T₆ F₆ N₆ K₆ (XB.keeps K₆.stays) (TB.keeps K₆.stays) (D.turn T₆'))
end
end Mine
end
section
open PySem PySem.W PyProof.Rows PySem.Calls
set_option Elab.async false
set_option maxRecDepth 100000
set_option maxHeartbeats 8000000
namespace Mine
noncomputable abbrev tupOf (vs : Array Value) : Obj := { cls := .type "tuple", data := .seq vs }
def ExcLit (cls : Value) (dx : Option Addr) (t : Addr) (o : Obj) : Prop := ∃ tb, o = excObj cls dx t tb
theorem ExcLit.still {cls : Value} {dx : Option Addr} {t : Addr} : Still (ExcLit cls dx t) := by
  rintro o vs v ⟨tb, rfl⟩ _
  exact ⟨v, rfl⟩
noncomputable abbrev unexpected : Str := "unexpected type in multicall result"
/-- a fault's code, or its words -/
inductive FV where
  | int (n : Int)
  | str (x : Str)
  | pair (n : Int) (x : Str)
inductive FIs (nw : List (Addr × Obj)) : FV → Value → Prop
  | int (n : Int) (t : Tok) : FIs nw (.int n) (.int n t)
  | str (x : Str) (t : Tok) : FIs nw (.str x) (.str x t)
  | pair (n : Int) (x : Str) (t t' : Tok) (l : Addr) (c : Nat) (h : (l, listOf #[.int n t, .str x t'] c) ∈ nw) : FIs nw (.pair n x) (.ref l)
theorem FIs.mono {nw nw2 : List (Addr × Obj)} {f : FV} {v : Value} (h : FIs nw f v) (s : ∀ q ∈ nw, q ∈ nw2) : FIs nw2 f v := by
  cases h with
  | int n t => exact .int n t
  | str x t => exact .str x t
  | pair n x t t' l c h => exact .pair n x t t' l c (s _ h)
/-- what a call of the little server comes to -/
inductive Rep where
  | int (n : Int)
  | nil
  | two (a b : Int)
  | fault (c s : FV)
inductive VIs (nw : List (Addr × Obj)) : Rep → Value → Prop
  | int (n : Int) (t : Tok) : VIs nw (.int n) (.int n t)
  | nil (l : Addr) (c : Nat) (h : (l, listOf #[] c) ∈ nw) : VIs nw .nil (.ref l)
  | two (a b : Int) (t t' : Tok) (l : Addr) (c : Nat) (h : (l, listOf #[.int a t, .int b t'] c) ∈ nw) : VIs nw (.two a b) (.ref l)
theorem VIs.mono {nw nw2 : List (Addr × Obj)} {f : Rep} {v : Value} (h : VIs nw f v) (s : ∀ q ∈ nw, q ∈ nw2) : VIs nw2 f v := by
  cases h with
  | int n t => exact .int n t
  | nil l c h => exact .nil l c (s _ h)
  | two a b t t' l c h => exact .two a b t t' l c (s _ h)
/-- the kinds of exceptions that come -/
inductive XK where
  | index
  | value
  | fault (c s : Value)
inductive XIs (w : World) : XK → (Obj → Prop) → List (Addr × Obj) → Prop
  | index : XIs w .index (fun o => o.cls = .type "IndexError") []
  | value (t : Addr) (tk : Nat) : XIs w .value (ExcLit (.type "ValueError") none t) [(t, tupOf #[.str unexpected tk])]
  | fault (c s : Value) (t dx : Addr) (t1 t2 : Nat) : XIs w (.fault c s) (ExcLit (.ref 51) (some dx) t) [(t, tupOf #[]), (dx, faultDict w t1 t2 c s)]
theorem XIs.still {w : World} {k : XK} {P : Obj → Prop} {ex : List (Addr × Obj)} (x : XIs w k P ex) : Still P := by
  cases x with
  | index => exact fun o vs v h _ => (Obj.cls_mapFields _ _).trans h
  | value t tk => exact ExcLit.still
  | fault c s t dx t1 t2 => exact ExcLit.still
abbrev Led := List (Addr × Obj)
/-- the call `f(args)` does this: the server's heap `ns` becomes `ns'`, and it comes to `O` -/
def Does (w : World) (lH : Addr) (ns ns' : List Int) (O : Rep) (D : Nat) (nw : Led) (f : Value) (args : List Value) : Prop :=
  ∀ (dp un : Nat) (gd : Option (List Code)) (cn : Str) (cs : Scope) (a : Addr) (ccd : Value) (cl : List (Str × Addr)) (outer : List Env) (A₀ : Around) (base h₀ : Heap) (L : Addr) (m : Str → Option Value) (s : Shared) (Q E : Value → Shared → Prop)
    (p : Program) (loose : List Str) (mean : ExcName → Option Value) (mg mb : Str → Option Value) (nw' : Led) (g : Obj → Led) (vs : List Value) (n : Nat),
    Below A₀ base outer h₀ → Fr h₀ L s.heap m → (topH.heap_1 w.params).In h₀ → News h₀ L s.heap nw' → Top p loose mean mg mb h₀ → cs.kind = .function → dp + D ≤ 390 → un + 8 * D ≤ 400 → (∀ q ∈ nw, q ∈ nw') → IntsAre vs ns → UpdF lH (listOf vs.toArray n) nw' g →
    (∀ c fs, O = .fault c fs → ∀ G e P ex more h' tk' vc vf, FIs more c vc → FIs more fs vf → XIs w (.fault vc vf) P ex → Fr h₀ L G m → RaisedP base G (envX cn cs L a ccd cl :: outer) e P (ex ++ (more ++ nw')) h' → G.UpToSlots h' → (∀ q ∈ more, ∀ q' ∈ nw', q'.1 < q.1) → E (.ref e) { s with heap := h', toks := tk' }) →
    (∀ h' tk' v ex vs' n', VIs ex O v → IntsAre vs' ns' → Fr h₀ L h' m → News h₀ L h' (ex ++ g (listOf vs'.toArray n')) → (∀ q ∈ ex, ∀ q' ∈ nw', q'.1 < q.1) → Q v { s with heap := h', toks := tk' }) →
    wpAny (model PySem.Challenge.rw_kn0109_04.row.prog w) (ktrTop dp un gd cn cs L a ccd cl outer) (call f args) Q E s
end Mine
end
section
open PySem PySem.W PyProof.Rows PySem.Calls
set_option Elab.async false
set_option maxRecDepth 100000
set_option maxHeartbeats 8000000
namespace Mine
/-- what a raised instance must be: a record of an exception class, fresh -/
def InstRaisable (M : Model) (h : Heap) (a : Addr) : Prop := ∃ o vs C, h.get? a = some o ∧ o.cls = .ref C ∧ o.data = .fields vs ∧ vs[1]? = some .none ∧ Looks M h (isSubtype (.ref C) (.type "BaseException")) true ∧ Looks M h (typeOf (.ref C)) (.type "type")
/-- an instance of an own exception class, raised -/
theorem Raise_inst {M : Model} {A : Around} {E : Value → Shared → Prop} {s : Shared} {env : Env} {e : Expr} {pos : Pos} {Q : Flow → Shared → Prop} (hh : A.handled = none)
    (h : wpAny M A (eval e env) (fun v s₁ => ∃ a, v = .ref a ∧ InstRaisable M s₁.heap a ∧ E (.ref a) s₁) E s) : wpAny M A (exec (.Raise (some e) none pos) env) Q E s := by
  show wpAny M A (do standAt pos; raiseStmt env (some (do let v ← eval e env; standAt pos; pure v)) none) Q E s
  refine wpAny_bind (wpAny_standAt ?_)
  unfold raiseStmt
  dsimp only
  refine wpAny_bind (wpAny_bind (wpAny_mono h (fun v s₁ h₁ => wpAny_bind (wpAny_standAt (wpAny_pure ?_))) fun _ _ x => x))
  obtain ⟨a, rfl, ⟨o, vs, C, ha, hc, hd, h1, hsub, hty⟩, hE⟩ := h₁
  have lt : Looks M s₁.heap (typeOf (.ref a)) (.ref C) := by
    have : Looks M s₁.heap (typeOf (.ref a)) o.cls := (Looks.ld ha).andThen .now
    rwa [hc] at this
  have li : Looks M s₁.heap (isType (.ref a)) false := by
    have : Looks M s₁.heap (isType (.ref a)) (match o.data with | .cls _ => true | _ => false) := (Looks.ld ha).andThen .now
    rwa [hd] at this
  refine wpAny_bind (wpAny_pure ?_)
  refine wpAny_bind ?_
  try with_reducible refine wpAny_holding ?_
  unfold excFromValue isExcClass
  refine wpAny_bind (wpAny_bind (li.here ?_))
  rw [if_neg Bool.false_ne_true]
  refine wpAny_pure ?_
  rw [if_neg Bool.false_ne_true]
  unfold isInstance
  refine wpAny_bind (wpAny_bind (lt.here (hsub.here ?_)))
  rw [if_pos rfl]
  refine wpAny_pure ?_
  refine wpAny_bind (li.here ?_)
  rw [if_neg Bool.false_ne_true]
  unfold raisedInstance
  refine wpAny_bind (wpAny_bind (lt.here (wpAny_bind (hty.here ?_))))
  rw [if_pos (by decide)]
  refine wpAny_pure ?_
  unfold setFlight
  refine wpAny_bind (wpAny_bind (wpAny_field ha hd h1 ?_))
  rw [if_neg (by decide)]
  refine wpAny_pure ?_
  unfold raiseNew
  refine wpAny_bind (wpAny_handled ?_)
  rw [hh]
  first
    | exact wpAny_throw hE
    | exact wpAny_bind (wpAny_pure (wpAny_throw hE))

structure MadeFault (w : World) (h h' : Heap) (e : Addr) (c v : Value) : Prop where
  keeps : ∀ b o, h.get? b = some o → h'.get? b = some o
  new : h.get? e = none
  there : ∃ t dx t1 t2, h'.get? e = some (excObj (.ref 51) (some dx) t .none) ∧ h'.get? t = some (tupOf #[]) ∧ h'.get? dx = some (faultDict w t1 t2 c v) ∧ h.get? t = none ∧ h.get? dx = none ∧ t ≠ e ∧ dx ≠ e

theorem sub_fault (w : World) : subIn (topH.heap_1 w.params) (.ref 51) (.type "BaseException") = some true := by kernel_rfl
theorem type_fault (w : World) : typeIn (topH.heap_1 w.params) (.ref 51) = some (.type "type") := by kernel_rfl
theorem MadeFault.raisable {M : Model} {w : World} {h₀ h h' : Heap} {L e : Addr} {m : Str → Option Value} {c v : Value} (mf : MadeFault w h h' e c v) (F : Fr h₀ L h m) (X : (topH.heap_1 w.params).In h₀) : InstRaisable M h' e := by
  obtain ⟨t, dx, t1, t2, he, _⟩ := mf.there
  have X' := (X.keeps F.keep).keeps mf.keeps
  exact ⟨_, _, 51, he, rfl, rfl, rfl, looks_subIn X' (sub_fault w), looks_typeIn X' (type_fault w)⟩
theorem call_fault {w : World} {A : Around} {E : Value → Shared → Prop} {s : Shared} {h₀ : Heap} {L : Addr} {m : Str → Option Value} {c v : Value} {envs : List Env} {Q : Value → Shared → Prop} (F : Fr h₀ L s.heap m) (X : (topH.heap_1 w.params).In h₀)
    (hh : A.handled = none) (hf : A.frames = some envs) (hd : A.depth ≤ 500) (hu : A.units ≤ 500)
    (h : ∀ e h' tk, MadeFault w s.heap h' e c v → Q (.ref e) { s with heap := h', toks := tk }) :
    wpAny (model PySem.Challenge.rw_kn0109_04.row.prog w) A (call (.ref 51) [c, v]) Q E s :=
  weaken (fault_X w s (X.keeps F.keep) c v envs A.guards Q E fun e t dx h' tk t1 t2 k he ht hx ⟨n1, n2, n3, n4, n5, _⟩ => h e h' tk ⟨k, n1, t, dx, t1, t2, he, ht, hx, n2, n3, n4, n5⟩) hh hd hf rfl hu

section
variable {M : Model} {A : Around} {E : Value → Shared → Prop} {s' : Shared} {base g h : Heap} {outer : List Env} {L e : Addr} {m : Str → Option Value} {env : Env} {cls : Value} {Q : Unit → Shared → Prop}
    {news : List (Addr × Obj)} {args : List Value}
theorem leave_madeP (K : Below A base outer g) (hx : Heap.MadeExcOf h s'.heap e cls args) (F : Fr g L h m) (N : News g L h news)
    (hQ : ∀ h' t, RaisedP base g outer e (ExcLit cls none t) ([(t, tupOf args.toArray)] ++ news) h' → g.UpToSlots h' → Q () { s' with heap := h' }) (hf : env.frame = some L) (hk : env.scope.kind = .function) :
    wpAny M (A.deeper env) (leaving env (.ref e)) Q E s' := by
  obtain ⟨t, he, htn, ht⟩ := hx.there
  obtain ⟨G, F', R, U⟩ := raiseHere (env := env) (P := ExcLit cls none t) (ex := [(t, tupOf args.toArray)]) K F N hx.keeps hx.new he ⟨_, rfl⟩ rfl rfl (fun q hq => by
    rw [List.mem_singleton.mp hq]
    refine ⟨ht, htn, fun z => ?_⟩
    have z' : t = e := z
    rw [z', he] at ht; cases ht) hf hk
  exact leaveOnP hf ExcLit.still K F' R U fun h' => hQ h' t
theorem leave_indexP (K : Below A base outer g) (hx : Heap.NewExc h s'.heap e "IndexError") (F : Fr g L h m) (N : News g L h news)
    (hQ : ∀ h', RaisedP base g outer e (fun o => o.cls = .type "IndexError") ([] ++ news) h' → g.UpToSlots h' → Q () { s' with heap := h' }) (hf : env.frame = some L) (hk : env.scope.kind = .function) :
    wpAny M (A.deeper env) (leaving env (.ref e)) Q E s' := by
  obtain ⟨ob, t, he, hc, hd⟩ := hx.there
  obtain ⟨G, F', R, U⟩ := raiseHere (env := env) (P := fun o => o.cls = .type "IndexError") (ex := []) K F N hx.keeps hx.new he hc hd rfl (fun _ h => nomatch h) hf hk
  exact leaveOnP hf (fun o vs v h _ => (Obj.cls_mapFields _ _).trans h) K F' R U hQ
theorem leave_faultP {w : World} {c v : Value} (K : Below A base outer g) (hx : MadeFault w h s'.heap e c v) (F : Fr g L h m) (N : News g L h news)
    (hQ : ∀ h' t dx t1 t2, RaisedP base g outer e (ExcLit (.ref 51) (some dx) t) ([(t, tupOf #[]), (dx, faultDict w t1 t2 c v)] ++ news) h' → g.UpToSlots h' → Q () { s' with heap := h' }) (hf : env.frame = some L) (hk : env.scope.kind = .function) :
    wpAny M (A.deeper env) (leaving env (.ref e)) Q E s' := by
  obtain ⟨t, dx, t1, t2, he, ht, hd, n1, n2, n3, n4⟩ := hx.there
  obtain ⟨G, F', R, U⟩ := raiseHere (env := env) (P := ExcLit (.ref 51) (some dx) t) (ex := [(t, tupOf #[]), (dx, faultDict w t1 t2 c v)]) K F N hx.keeps hx.new he ⟨_, rfl⟩ rfl rfl (fun q hq => by
    rcases List.mem_cons.mp hq with rfl | hq
    · exact ⟨ht, n1, n3⟩
    · rw [List.mem_singleton.mp hq]; exact ⟨hd, n2, n4⟩) hf hk
  exact leaveOnP hf ExcLit.still K F' R U fun h' => hQ h' t dx t1 t2
end
end Mine
end
open PySem PySem.W PyProof.Rows PySem.Calls PySem.SeqAt Mine
local macro_rules | `(tactic| k_room) => `(tactic| ((try simp only [depth_mark, depth_under_make, depth_under_kw, depth_in1, depth_deeper] at *); (try dsimp only [ktrTop] at *); (simp only [recursionLimit] at *); omega))
local macro_rules | `(tactic| walk_at "convS str") => `(tactic| ((refine SB.convS_str (hsz := ?hsz) ?_); (case hsz => (rw [sizeLine_eq]; omega)); intro _ _))
local macro_rules | `(tactic| walk_at "formatField str") => `(tactic| ((refine formatField_str (hsz := ?hsz) ?_); (case hsz => (rw [sizeLine_eq]; omega)); intro _ _))
section
open PySem PySem.W PyProof.Rows PySem.Calls PySem.SeqAt
set_option Elab.async false
set_option maxRecDepth 100000
set_option maxHeartbeats 600000
namespace Mine
theorem ints_app {vs us : List Value} {ns ms : List Int} (h : IntsAre vs ns) (k : IntsAre us ms) : IntsAre (vs ++ us) (ns ++ ms) := by
  induction h with
  | nil => exact k
  | cons i t _ ih => exact .cons i t ih
theorem updOf {d : Addr} {o o' : Obj} {l : List (Addr × Obj)} {g : Obj → List (Addr × Obj)} (u : UpdF d o l g) : Upd d o o' l (g o') := by
  induction u with
  | head h => exact .head h
  | tail h _ ih => exact .tail h ih
theorem updMem {d : Addr} {o : Obj} {l : List (Addr × Obj)} {g : Obj → List (Addr × Obj)} (u : UpdF d o l g) : (d, o) ∈ l := by
  induction u with
  | head h => exact .head _
  | tail h _ ih => exact .tail _ ih
theorem updAgain {d : Addr} {o o' : Obj} {l : List (Addr × Obj)} {g : Obj → List (Addr × Obj)} (u : UpdF d o l g) : UpdF d o' (g o') g := by
  induction u with
  | head h => exact .head h
  | tail h _ ih => exact .tail h ih
theorem updStay {d : Addr} {o o' : Obj} {l : List (Addr × Obj)} {g : Obj → List (Addr × Obj)} (u : UpdF d o l g) : ∀ q ∈ l, q.1 ≠ d → q ∈ g o' := by
  induction u with
  | head h =>
    intro q hq hn
    rcases List.mem_cons.mp hq with rfl | hq
    · exact absurd rfl hn
    · exact .tail _ hq
  | tail h _ ih =>
    intro q hq hn
    rcases List.mem_cons.mp hq with rfl | hq
    · exact .head _
    · exact .tail _ (ih q hq hn)
section
variable {prog : Program} {w : World} {A : Around} {E : Value → Shared → Prop} {h₀ h : Heap} {L D : Addr} {m : Str → Option Value} {news : List (Addr × Obj)} {n : Nat} {vs : List Value} {ns : List Int} {g : Obj → List (Addr × Obj)} {gg d os} {tk : Nat} {Q : Value → Shared → Prop}
theorem app_U {x : Value} (F : Fr h₀ L h m) (N : News h₀ L h news) (U : UpdF D (listOf vs.toArray n) news g) (hz : vs.length ≤ 2000)
    (k : ∀ h', Fr h₀ L h' m → News h₀ L h' (g (listOf (vs ++ [x]).toArray (n + 1))) → UpdF D (listOf (vs ++ [x]).toArray (n + 1)) (g (listOf (vs ++ [x]).toArray (n + 1))) g → (D, listOf (vs ++ [x]).toArray (n + 1)) ∈ g (listOf (vs ++ [x]).toArray (n + 1)) → Q .none ⟨h', gg, d, tk, os⟩) :
    wpAny (model prog w) A (call (.builtin "list.append") [.ref D, x]) Q E ⟨h, gg, d, tk, os⟩ := by
  refine append_K (s := ⟨h, gg, d, tk, os⟩) F N (updOf U) (fun h' F' N' => ?_) (by rw [sizeLine_eq, List.size_toArray]; omega)
  have e : vs.toArray.push x = (vs ++ [x]).toArray := by simp
  rw [e] at N'
  exact k h' F' N' (updAgain U) (updMem (updAgain U))
theorem len_U (N : News h₀ L h news) (U : UpdF D (listOf vs.toArray n) news g) (hl : vs.length = k) (hz : vs.length ≤ 2000) (q : Q (.int k (tk + 1)) ⟨h, gg, d, tk + 1 + 1, os⟩) :
    wpAny (model prog w) A (call (.builtin "len") [.ref D]) Q E ⟨h, gg, d, tk, os⟩ := by
  refine call_len_list (N.isList (updMem U)) (by simp only [List.size_toArray]; omega) ?_
  simp only [List.size_toArray, hl]
  exact q
theorem pop_U (F : Fr h₀ L h m) (N : News h₀ L h news) (U : UpdF D (listOf vs.toArray n) news g) (hi : IntsAre vs ns) (hne : 0 < vs.length) (hz : vs.length ≤ 2000)
    (k : ∀ h' t, Fr h₀ L h' m → News h₀ L h' (g (listOf vs.dropLast.toArray (n + 1))) → UpdF D (listOf vs.dropLast.toArray (n + 1)) (g (listOf vs.dropLast.toArray (n + 1))) g → (D, listOf vs.dropLast.toArray (n + 1)) ∈ g (listOf vs.dropLast.toArray (n + 1)) → IntsAre vs.dropLast ns.dropLast → Q (.int (ns.getLastD 0) t) ⟨h', gg, d, tk, os⟩) :
    wpAny (model prog w) A (call (.builtin "list.pop") [.ref D]) Q E ⟨h, gg, d, tk, os⟩ :=
  kpa_pop (s := ⟨h, gg, d, tk, os⟩) F N (updOf U) hi hne (by rw [sizeLine_eq]; omega) fun h' t F' N' hI => k h' t F' N' (updAgain U) (updMem (updAgain U)) hI
end
theorem serve_put {w : World} {lH tup : Addr} {ns : List Int} {x : Int} {tn ta : Tok} (hlen : ns.length ≤ 1000) : Does w lH ns (ns ++ [x]) (.int (ns.length + 1)) 3 [(tup, tupOf #[.int x ta])] (.ref 158) [.ref lH, .str "s.put" tn, .ref tup] := by
  unfold Does
  w_top off
  k_fill
  intro dp un gd cn cs a ccd cl outer A₀ base h₀ L m s Q E p loose mean mg mb nw' g vs n B F X N T hk hd hu hn hI U postE post
  have hm := hn _ (.head _)
  have hl := hI.length
  have hL := updMem U
  refine wpAny_call ?_
  k_dflt cell_enter
  (repeat' (first
    | (k_unfold; (try dsimp only)) | (k_end; wrow_close)
    | (with_reducible (k_here; (with_reducible show wpAny _ _ (call (Value.builtin _) [Value.ref _]) _ _ _); k_dflt (refine' pop_U ?F ?N ?U ?i ?l ?z ?_; (case F => k_asm); (case N => k_asm); (case U => assumption); (case i => assumption); (case l => (simp only [List.length_dropLast]; omega)); (case z => (simp only [List.length_dropLast]; omega))); intro h' t' F' N' U' m' hI'))
    | (with_reducible (k_here; (with_reducible show wpAny _ _ (call (Value.builtin "len") [Value.ref _]) _ _ _); k_dflt (refine' len_U ?N ?U rfl ?z ?_; (case N => k_asm); (case U => assumption); (case z => (simp only [List.length_append, List.length_cons, List.length_nil, List.length_dropLast]; omega)))))
    | (with_reducible (k_here; (with_reducible show wpAny _ _ (call (Value.builtin _) [Value.ref _, _]) _ _ _); k_dflt (refine' app_U ?F ?N ?U ?z ?_; (case F => k_asm); (case N => k_asm); (case U => assumption); (case z => omega)); intro h' F' N' U' m'))
    | walk1 | (dsimp only; walk1) | (leave1; (try dsimp only))))
  all_goals (
    have e : (((vs ++ [Value.int x ta]).length : Nat) : Int) = ns.length + 1 := by simp [hl]
    rw [e]
    exact post _ _ _ [] _ _ (.int _ _) (ints_app hI (.cons _ _ .nil)) (by k_asm) (by k_asm) (fun _ h => nomatch h))
end Mine
end
section
open PySem PySem.W PyProof.Rows PySem.Calls PySem.SeqAt
set_option Elab.async false
set_option maxRecDepth 100000
set_option maxHeartbeats 8000000
namespace Mine
section
variable {prog : Program} {w : World} {A : Around} {E : Value → Shared → Prop} {h₀ h : Heap} {L D : Addr} {m : Str → Option Value} {news : List (Addr × Obj)} {n : Nat} {vs : List Value} {ns : List Int} {g : Obj → List (Addr × Obj)} {gg d os} {tk : Nat}
theorem tru_U {Q : Bool → Shared → Prop} (N : News h₀ L h news) (hm : (D, listOf vs.toArray n) ∈ news) (b : Bool) (hb : decide (0 < vs.length) = b) (hz : vs.length ≤ 2000) (q : Q b ⟨h, gg, d, tk + 1 + 1, os⟩) :
    wpAny (model prog w) A (truthy (.ref D)) Q E ⟨h, gg, d, tk, os⟩ := by
  refine wpAny_truthy_list (N.isList hm) (by simp only [List.size_toArray]; omega) ?_
  have e : (!vs.toArray.isEmpty) = b := by
    rw [← hb]
    cases vs <;> simp
  rw [e]; exact q
end
theorem last_set : ∀ (us : List Value) (v : Value), 0 < us.length → ki_setL us (us.length - 1) v = some (us.dropLast ++ [v])
  | [], _, h => absurd h (Nat.lt_irrefl _)
  | [x], v, _ => rfl
  | x :: y :: r, v, _ => by
    have e := last_set (y :: r) v (Nat.succ_pos _)
    have e1 : (x :: y :: r).length - 1 = ((y :: r).length - 1) + 1 := by simp
    rw [e1]
    show (match ki_setL (y :: r) ((y :: r).length - 1) v with | some q => some (x :: q) | none => none) = _
    rw [e]
    rfl
theorem ints_last {us : List Value} {l : List Int} (hi : IntsAre us l) (h : 0 < us.length) : ∃ t, us[us.length - 1]? = some (.int (l.getLastD 0) t) := by
  obtain ⟨y, t, e, ey, _⟩ := kpa_ints hi h
  refine ⟨t, ?_⟩
  have : us.length - 1 = us.dropLast.length := by simp
  rw [this]
  rw [e, ey]
  simp
section
variable {prog : Program} {w : World} {A : Around} {E : Value → Shared → Prop} {h₀ h : Heap} {L D : Addr} {m : Str → Option Value} {news : List (Addr × Obj)} {n : Nat} {vs : List Value} {ns : List Int} {g : Obj → List (Addr × Obj)} {gg d os} {tk : Nat} {tm : Tok}
theorem last_U {value slice : PySem.Expr} {Q : Value → Shared → Prop} (N : News h₀ L h news) (hm : (D, listOf vs.toArray n) ∈ news) (hi : IntsAre vs ns) (hne : 0 < vs.length) (hz : vs.length ≤ 2000) (q : ∀ t, Q (.int (ns.getLastD 0) t) ⟨h, gg, d, tk, os⟩)
    (hs : subscripted slice false (.ref D) (.int (-1) tm) = operate [.ref D, .int (-1) tm] (getItem (.ref D) (.int (-1) tm)) := by with_unfolding_all rfl) :
    wpAny (model prog w) A (subscriptTail value slice (.ref D) (.int (-1) tm)) Q E ⟨h, gg, d, tk, os⟩ := by
  obtain ⟨t, e⟩ := ints_last hi hne
  refine tail_any (s := ⟨h, gg, d, tk, os⟩) (N.isList hm).typeIs slot_list_getitem.lookup ?_ hs
  refine wpAny_getItem_list_neg (N.isList hm) (by omega) (by simp only [List.size_toArray]; omega) (by omega) ?_ (q t)
  have : ((-1 : Int) + (vs.toArray.size : Nat)).toNat = vs.length - 1 := by simp only [List.size_toArray]; omega
  rw [this]
  simpa using e
theorem setlast_U {x : Int} {u : Tok} {Q : Unit → Shared → Prop} (F : Fr h₀ L h m) (N : News h₀ L h news) (U : UpdF D (listOf vs.toArray n) news g) (hi : IntsAre vs ns) (hne : 0 < vs.length) (hz : vs.length ≤ 2000)
    (k : ∀ h', Fr h₀ L h' m → News h₀ L h' (g (listOf (vs.dropLast ++ [Value.int x u]).toArray n)) → UpdF D (listOf (vs.dropLast ++ [Value.int x u]).toArray n) (g (listOf (vs.dropLast ++ [Value.int x u]).toArray n)) g → (D, listOf (vs.dropLast ++ [Value.int x u]).toArray n) ∈ g (listOf (vs.dropLast ++ [Value.int x u]).toArray n) → IntsAre (vs.dropLast ++ [Value.int x u]) (ns.dropLast ++ [x]) → Q () ⟨h', gg, d, tk, os⟩) :
    wpAny (model prog w) A (setItem (.ref D) (.int (-1) tm) (.int x u)) Q E ⟨h, gg, d, tk, os⟩ := by
  obtain ⟨_, _, _, _, hi'⟩ := kpa_ints hi hne
  refine ki_setNeg (s := ⟨h, gg, d, tk, os⟩) (j := vs.length - 1) F N (by omega) (by omega) ?_ (by simpa using last_set vs (.int x u) hne) (updOf U) fun h' F' N' => k h' F' N' (updAgain U) (updMem (updAgain U)) (ints_app hi' (.cons _ _ .nil))
  rw [PySem.seqIndex_neg (by omega) (by simp only [List.size_toArray]; omega)]
  simp only [List.size_toArray]
  congr 1
  omega
end
section
variable {prog : Program} {w : World} {A : Around} {E : Value → Shared → Prop} {s : Shared}
theorem mod_fact {a b : Int} {t u : Tok} {Q : Value → Shared → Prop} (hb : 0 < b) (h : 0 ≤ a.fmod b → a.fmod b < b → Q (.int (a.fmod b) s.toks) { s with toks := s.toks + 1 }) : wpAny (model prog w) A (binaryOp .Mod (.int a t) (.int b u)) Q E s :=
  PyProof.Rows.mod_int' (by omega) (h (Int.fmod_nonneg_of_pos _ hb) (Int.fmod_lt_of_pos _ hb))
end
section
variable {prog : Program} {w : World} {A : Around} {E : Value → Shared → Prop} {s : Shared} {h₀ : Heap} {L D D2 : Addr} {m : Str → Option Value} {news : List (Addr × Obj)} {n n2 : Nat} {vs us : List Value} {g : Obj → List (Addr × Obj)}
/-- `l[:] = other list` -/
theorem setall_at {l l2 sl : Addr} {its its2 : Array Value} {Q : Unit → Shared → Prop} (ho : s.heap.get? l = some (listOf its n)) (ho2 : s.heap.get? l2 = some (listOf its2 n2)) (hs : s.heap.IsSliceOf sl .none .none .none) (hne : l ≠ l2) (hz : its.size ≤ 2000) (hz2 : its2.size ≤ 2000)
    (hQ : Q () { s with heap := s.heap.update l (Obj.mapSeq fun xs => xs.extract 0 0 ++ its2 ++ xs.extract its.size xs.size) }) : wpAny (model prog w) A (setItem (.ref l) (.ref sl) (.ref l2)) Q E s := by
  have hl : s.heap.IsList l its := PySem.IsL.isList (n := n) ho
  have hl2 : s.heap.IsList l2 its2 := PySem.IsL.isList (n := n2) ho2
  obtain ⟨os, hos, hcs, hds⟩ := id hs
  have hTs : s.TypeIs (.ref sl) "slice" := ⟨os, hos, hcs⟩
  unfold setItem
  try with_reducible refine wpAny_holding ?_
  first | refine wpAny_bind (wpAny_pure ?_) | skip
  refine wpAny_bind (wpAny_sequenceKey hl.typeIs (by decide) ?_)
  refine wpAny_bind (wpAny_callSpecial?_slot (name := Str.ofString "__setitem__") hl.typeIs slot_list_setitem
    (wpAny_call_entry slot_list_setitem hl.typeIs entry_list_setitem ?_ (args_list_setitem _ _ _)))
  show wpAny _ _ (Builtin.List.listSubscript? (.ref sl) >>= _) _ _ s
  refine wpAny_bind ?_
  unfold Builtin.List.listSubscript?
  refine wpAny_bind (wpAny_specialOf hTs slice_no_index ?_)
  simp only [Option.isNone_none, if_true]
  refine wpAny_pure ?_
  show wpAny _ _ (typeOf (.ref sl) >>= _) _ _ s
  refine wpAny_bind (wpAny_typeOf hTs ?_)
  rw [if_neg (by decide)]
  rw [listSliceParts_eq]
  have hstep : ¬ ((Value.none == rawInt 0) = true) := Bool.false_ne_true
  refine wpAny_bind (wpAny_bind (wpAny_field hos hds (x := .none) rfl (wpAny_bind (wpAny_listPart .none ?_))))
  rw [if_neg (by exact hstep)]
  refine wpAny_bind (wpAny_field hos hds (x := .none) rfl (wpAny_bind (wpAny_listPart .none ?_)))
  refine wpAny_bind (wpAny_field hos hds (x := .none) rfl (wpAny_bind (wpAny_listPart .none (wpAny_pure ?_))))
  have hsr : Builtin.List.listSameRef (.ref l) (.ref l2) = false := by
    show (l == l2) = false
    exact beq_eq_false_iff_ne.mpr hne
  rw [hsr, if_neg Bool.false_ne_true]
  refine wpAny_bind ?_
  unfold Builtin.List.listAllItems
  refine wpAny_bind (wpAny_typeOf hl2.typeIs ?_)
  rw [if_pos (by decide)]
  refine listItems_at ho2 rfl ?_
  refine wpAny_bind (listItems_at ho rfl ?_)
  refine wpAny_bind (wpAny_of_eq (sliceIndices_raw none none none its.size (by simp)) ?_)
  rw [if_pos (show ((sliceBounds none none none its.size).2.2 == 1) = true from rfl)]
  refine wpAny_bind (wpAny_rule ?_)
  rw [if_neg (by simp only [Builtin.List.listTooLong, sizeLine_eq, gt_iff_lt, decide_eq_true_eq]; omega)]
  refine wpAny_bind (listUpdate_at ho rfl ?_ (by rw [sizeLine_eq]; omega) (by rw [sizeLine_eq]; simp; omega))
  refine wpAny_bind (wpAny_letGo ?_)
  exact wpAny_pure ⟨.none, rfl, wpAny_pure hQ⟩
theorem setall_U {gg d os tk} {h : Heap} {Q : Unit → Shared → Prop} (F : Fr h₀ L h m) (N : News h₀ L h news) (U : UpdF D (listOf vs.toArray n) news g) (hD : (D2, listOf us.toArray n2) ∈ news) (hne : D ≠ D2) (hz : vs.length ≤ 2000) (hlen : us.length = vs.length)
    (k : ∀ h', Fr h₀ L h' m → News h₀ L h' (g (listOf us.toArray n)) → UpdF D (listOf us.toArray n) (g (listOf us.toArray n)) g → (D, listOf us.toArray n) ∈ g (listOf us.toArray n) → Q () ⟨h', gg, d, tk, os⟩) :
    wpAny (model prog w) A (setItem (.ref D) (.ref h.objs.size) (.ref D2)) Q E ⟨h.push { cls := .type "slice", data := .fields #[.none, .none, .none] }, gg, d, tk, os⟩ := by
  have z := N _ (updMem U)
  have z2 := N _ hD
  obtain ⟨pre, post, e1, e2, a, b⟩ := U.split
  subst e1
  have N' : News h₀ L (h.push { cls := .type "slice", data := .fields #[.none, .none, .none] }) (pre ++ (D, listOf vs.toArray n) :: post) := fun q hq => ⟨Heap.get?_push_of_some _ (N q hq).1, (N q hq).2⟩
  have F' : Fr h₀ L (h.push { cls := .type "slice", data := .fields #[.none, .none, .none] }) m := F.keeps fun b o e => Heap.get?_push_of_some _ e
  refine setall_at (s := ⟨h.push _, gg, d, tk, os⟩) (Heap.get?_push_of_some _ z.1) (Heap.get?_push_of_some _ z2.1) (Heap.IsSliceOf.new ..) hne (by simp; omega) (by simp; omega) ?_
  have hu := updAgain (o' := listOf us.toArray n) U
  have hm := updMem hu
  refine k _ (F'.change (Heap.SameBut.update ..) z.2.1 z.2.2) ?_ hu hm
  rw [e2]
  exact ki_turn _ N' a b (by simp) (by simp [hlen])
end
theorem updSelf {d : Addr} {o : Obj} {l : List (Addr × Obj)} {g : Obj → List (Addr × Obj)} (u : UpdF d o l g) : g o = l := by
  induction u with
  | head h => rfl
  | tail h _ ih => show _ :: _ = _; rw [ih]
theorem updLt {d a : Addr} {o o' : Obj} {l : List (Addr × Obj)} {g : Obj → List (Addr × Obj)} (u : UpdF d o l g) (h : ∀ p ∈ g o', p.1 < a) : ∀ p ∈ l, p.1 < a := fun p hp => by
  by_cases e : p.1 = d
  · have := h _ (updMem (updAgain (o' := o') u))
    rw [e]; exact this
  · exact h _ (updStay u p hp e)
theorem above_nil {nw : List (Addr × Obj)} : ∀ q ∈ ([] : List (Addr × Obj)), ∀ q' ∈ nw, q'.1 < q.1 := fun _ h => nomatch h
theorem above_cons {nw ex : List (Addr × Obj)} {a : Addr} {o : Obj} (h : ∀ p ∈ nw, p.1 < a) (t : ∀ q ∈ ex, ∀ q' ∈ nw, q'.1 < q.1) : ∀ q ∈ (a, o) :: ex, ∀ q' ∈ nw, q'.1 < q.1 := fun q hq q' hq' => by
  rcases List.mem_cons.mp hq with rfl | hq
  · exact h q' hq'
  · exact t q hq q' hq'
local macro_rules | `(tactic| walk_at "subscriptTail Name Slice ref ref") => `(tactic| (k_here; k_dflt (dsimp only; refine' kmk_slice_ints (s := ⟨_, _, _, _, _⟩) ?F ?N ?l ?p ?q ?i ?m ?c ?_ ?s ?t ?z; (case F => k_asm); (case N => k_asm); (case l => refine' News.isList ?l1 ?l2; (case l1 => assumption); (case l2 => (repeat (first | with_reducible assumption | with_reducible refine List.mem_cons_of_mem _ ?_)))); (case p => kmk_part); (case q => kmk_part); (case i => assumption); (case m => kmk_nums); (case c => kmk_len); (case s => with_unfolding_all rfl); (case t => kmk_pure); (case z => kmk_size)); intro D' ws' h' F' N' l1 hI' hC' hL'; (try k_lt l1)))
theorem serve_take0 {w : World} {lH tup : Addr} {tn : Tok} {ns : List Int} {args : Array Value} (h0 : ns.length = 0) (hlen : ns.length ≤ 1000) : Does w lH ns ns (.fault (.str "e1") (.str "empty")) 3 [(tup, tupOf args)] (.ref 158) [.ref lH, .str "s.top.take" tn, .ref tup] := by
  unfold Does
  w_top off
  k_fill
  intro dp un gd cn cs a ccd cl outer A₀ base h₀ L m s Q E p loose mean mg mb nw' g vs n B F X N T hk hd hu hn hI U postE post
  have hm := hn _ (.head _)
  have hl := hI.length
  have hL := updMem U
  refine wpAny_call ?_
  k_dflt cell_enter
  (repeat' (first
    | (k_unfold; (try dsimp only)) | (k_end; wrow_close)
    | (with_reducible (k_here; (with_reducible show wpAny _ _ (binaryOp Operator.Mod (Value.int _ _) (Value.int _ _)) _ _ _); k_dflt (refine' mod_fact ?p ?_; (case p => omega)); intro h0' h1'))
    | (with_reducible (k_here; (with_reducible show wpAny _ _ (setItem (Value.ref _) (Value.int (-1) _) (Value.int _ _)) _ _ _); k_dflt (refine' setlast_U ?F ?N ?U ?hi ?l ?z ?_; (case F => k_asm); (case N => k_asm); (case U => assumption); (case hi => assumption); (case l => ((try simp only [List.length_append, List.length_cons, List.length_nil, List.length_dropLast]); omega)); (case z => ((try simp only [List.length_append, List.length_cons, List.length_nil, List.length_dropLast]); omega))); intro h' F' N' U' m' hI'))
    | (with_reducible (k_here; (with_reducible show wpAny _ _ (subscriptTail _ _ (Value.ref _) (Value.int (-1) _)) _ _ _); k_dflt (refine' last_U ?N ?hm ?hi ?l ?z ?_; (case N => k_asm); (case hm => assumption); (case hi => assumption); (case l => ((try simp only [List.length_append, List.length_cons, List.length_nil, List.length_dropLast]); omega)); (case z => ((try simp only [List.length_append, List.length_cons, List.length_nil, List.length_dropLast]); omega))); intro t'))
    | (with_reducible (k_here; (with_reducible show wpAny _ _ (truthy (Value.ref _)) _ _ _); k_dflt (first | (refine' tru_U ?N ?hm true ?hb ?z ?_; (case N => k_asm); (case hm => assumption); (case hb => (refine decide_eq_true ?_; omega)); (case z => omega)) | (refine' tru_U ?N ?hm false ?hb ?z ?_; (case N => k_asm); (case hm => assumption); (case hb => (refine decide_eq_false ?_; omega)); (case z => omega)))))
    | ((with_reducible show wpAny _ _ (leaving _ (Value.ref _)) _ _ _); with_reducible (k_here; k_dflt (first | (refine' leave_madeP ?k1 (Heap.MadeExc.of (by assumption)) ?k2 ?k3 ?_ ?k6 ?k5; (case k6 => exact rfl); (case k2 => assumption); (case k1 => assumption); (case k3 => k_asm); (case k5 => exact rfl); k_whole; intro h' t' R' U'; (try dsimp only at U' ⊢)) | (refine' leave_indexP ?k1 ?k0 ?k2 ?k3 ?_ ?k6 ?k5; (case k6 => exact rfl); (case k0 => assumption); (case k2 => assumption); (case k1 => assumption); (case k3 => k_asm); (case k5 => exact rfl); k_whole; intro h' R' U'; (try dsimp only at U' ⊢)) | (refine' leave_faultP ?k1 ?k0 ?k2 ?k3 ?_ ?k6 ?k5; (case k6 => exact rfl); (case k0 => assumption); (case k2 => assumption); (case k1 => assumption); (case k3 => k_asm); (case k5 => exact rfl); k_whole; intro h' t' dx' t1' t2' R' U'; (try dsimp only at U' ⊢)) | (refine' leaveOnP rfl ?k0 ?k1 ?k2 ?k3 ?k4 ?_; (case k3 => assumption); (case k0 => exact XIs.still (by assumption)); (case k1 => assumption); (case k2 => assumption); (case k4 => assumption); k_whole; intro h' R' U'; (try dsimp only at U' ⊢)))))
    | ((with_reducible show Exists _); with_reducible (k_here; refine ⟨_, rfl, MadeFault.raisable (by assumption) (by assumption) (by assumption), ?_⟩))
    | (with_reducible ((with_reducible show _ = _ ∧ _); refine ⟨rfl, ?_⟩; (try dsimp only)))
    | (with_reducible (k_here; (with_reducible show wpAny _ _ (exec (Stmt.Raise (some (Expr.Call (Expr.Name ("Fault" : Str) _) _ [] _)) none _) _) _ _ _); with_unfolding_all refine Raise_inst rfl ?_))
    | (with_reducible (k_here; (with_reducible show wpAny _ _ (call (Value.ref _) [_, _] _) _ _ _); k_dflt (refine' call_fault ?k1 ?k2 ?k3 ?k4 ?k5 ?k6 ?_; (case k1 => k_asm); (case k2 => k_asm); (case k3 => exact rfl); (case k4 => exact rfl); (case k5 => (simp only [depth_mark, depth_under_make, depth_under_kw, depth_in1, depth_deeper]; (try dsimp only [ktrTop]); omega)); (case k6 => ((try dsimp only [ktrTop, Around.in1, Around.deeper]); omega)); k_whole; intro e' h' tk' hx')))
    | (with_reducible (k_here; (try dsimp only); (with_reducible show wpAny _ _ (call (Value.builtin _) [Value.ref _]) _ _ _); k_dflt (refine' pop_U ?F ?N ?U ?i ?l ?z ?_; (case F => k_asm); (case N => k_asm); (case U => assumption); (case i => assumption); (case l => ((try simp only [List.length_dropLast]); omega)); (case z => ((try simp only [List.length_dropLast]); omega))); intro h' t' F' N' U' m' hI'))
    | (with_reducible (k_here; (with_reducible show wpAny _ _ (call (Value.builtin "len") [Value.ref _]) _ _ _); k_dflt (refine' len_U ?N ?U rfl ?z ?_; (case N => k_asm); (case U => assumption); (case z => ((try simp only [List.length_append, List.length_cons, List.length_nil, List.length_dropLast]); omega)))))
    | (with_reducible (k_here; (with_reducible show wpAny _ _ (call (Value.builtin _) [Value.ref _, _]) _ _ _); k_dflt (refine' app_U ?F ?N ?U ?z ?_; (case F => k_asm); (case N => k_asm); (case U => assumption); (case z => omega)); intro h' F' N' U' m'))
    | walk1 | (dsimp only; walk1) | (leave1; (try dsimp only))))
  all_goals exact postE _ _ rfl _ _ _ _ [] _ _ _ _ (.str _ _) (.str _ _) (.fault _ _ _ _ _ _) (by assumption) (by assumption) (by assumption) above_nil
theorem serve_take {w : World} {lH tup : Addr} {tn : Tok} {ns : List Int} {args : Array Value} (h0 : 0 < ns.length) (hlen : ns.length ≤ 1000) : Does w lH ns ns.dropLast (.int (ns.getLastD 0)) 3 [(tup, tupOf args)] (.ref 158) [.ref lH, .str "s.top.take" tn, .ref tup] := by
  unfold Does
  w_top off
  k_fill
  intro dp un gd cn cs a ccd cl outer A₀ base h₀ L m s Q E p loose mean mg mb nw' g vs n B F X N T hk hd hu hn hI U postE post
  have hm := hn _ (.head _)
  have hl := hI.length
  have hL := updMem U
  refine wpAny_call ?_
  k_dflt cell_enter
  (repeat' (first
    | (k_unfold; (try dsimp only)) | (k_end; wrow_close)
    | (with_reducible (k_here; (with_reducible show wpAny _ _ (binaryOp Operator.Mod (Value.int _ _) (Value.int _ _)) _ _ _); k_dflt (refine' mod_fact ?p ?_; (case p => omega)); intro h0' h1'))
    | (with_reducible (k_here; (with_reducible show wpAny _ _ (setItem (Value.ref _) (Value.int (-1) _) (Value.int _ _)) _ _ _); k_dflt (refine' setlast_U ?F ?N ?U ?hi ?l ?z ?_; (case F => k_asm); (case N => k_asm); (case U => assumption); (case hi => assumption); (case l => ((try simp only [List.length_append, List.length_cons, List.length_nil, List.length_dropLast]); omega)); (case z => ((try simp only [List.length_append, List.length_cons, List.length_nil, List.length_dropLast]); omega))); intro h' F' N' U' m' hI'))
    | (with_reducible (k_here; (with_reducible show wpAny _ _ (subscriptTail _ _ (Value.ref _) (Value.int (-1) _)) _ _ _); k_dflt (refine' last_U ?N ?hm ?hi ?l ?z ?_; (case N => k_asm); (case hm => assumption); (case hi => assumption); (case l => ((try simp only [List.length_append, List.length_cons, List.length_nil, List.length_dropLast]); omega)); (case z => ((try simp only [List.length_append, List.length_cons, List.length_nil, List.length_dropLast]); omega))); intro t'))
    | (with_reducible (k_here; (with_reducible show wpAny _ _ (truthy (Value.ref _)) _ _ _); k_dflt (first | (refine' tru_U ?N ?hm true ?hb ?z ?_; (case N => k_asm); (case hm => assumption); (case hb => (refine decide_eq_true ?_; omega)); (case z => omega)) | (refine' tru_U ?N ?hm false ?hb ?z ?_; (case N => k_asm); (case hm => assumption); (case hb => (refine decide_eq_false ?_; omega)); (case z => omega)))))
    | ((with_reducible show wpAny _ _ (leaving _ (Value.ref _)) _ _ _); with_reducible (k_here; k_dflt (first | (refine' leave_madeP ?k1 (Heap.MadeExc.of (by assumption)) ?k2 ?k3 ?_ ?k6 ?k5; (case k6 => exact rfl); (case k2 => assumption); (case k1 => assumption); (case k3 => k_asm); (case k5 => exact rfl); k_whole; intro h' t' R' U'; (try dsimp only at U' ⊢)) | (refine' leave_indexP ?k1 ?k0 ?k2 ?k3 ?_ ?k6 ?k5; (case k6 => exact rfl); (case k0 => assumption); (case k2 => assumption); (case k1 => assumption); (case k3 => k_asm); (case k5 => exact rfl); k_whole; intro h' R' U'; (try dsimp only at U' ⊢)) | (refine' leave_faultP ?k1 ?k0 ?k2 ?k3 ?_ ?k6 ?k5; (case k6 => exact rfl); (case k0 => assumption); (case k2 => assumption); (case k1 => assumption); (case k3 => k_asm); (case k5 => exact rfl); k_whole; intro h' t' dx' t1' t2' R' U'; (try dsimp only at U' ⊢)) | (refine' leaveOnP rfl ?k0 ?k1 ?k2 ?k3 ?k4 ?_; (case k3 => assumption); (case k0 => exact XIs.still (by assumption)); (case k1 => assumption); (case k2 => assumption); (case k4 => assumption); k_whole; intro h' R' U'; (try dsimp only at U' ⊢)))))
    | ((with_reducible show Exists _); with_reducible (k_here; refine ⟨_, rfl, MadeFault.raisable (by assumption) (by assumption) (by assumption), ?_⟩))
    | (with_reducible ((with_reducible show _ = _ ∧ _); refine ⟨rfl, ?_⟩; (try dsimp only)))
    | (with_reducible (k_here; (with_reducible show wpAny _ _ (exec (Stmt.Raise (some (Expr.Call (Expr.Name ("Fault" : Str) _) _ [] _)) none _) _) _ _ _); with_unfolding_all refine Raise_inst rfl ?_))
    | (with_reducible (k_here; (with_reducible show wpAny _ _ (call (Value.ref _) [_, _] _) _ _ _); k_dflt (refine' call_fault ?k1 ?k2 ?k3 ?k4 ?k5 ?k6 ?_; (case k1 => k_asm); (case k2 => k_asm); (case k3 => exact rfl); (case k4 => exact rfl); (case k5 => (simp only [depth_mark, depth_under_make, depth_under_kw, depth_in1, depth_deeper]; (try dsimp only [ktrTop]); omega)); (case k6 => ((try dsimp only [ktrTop, Around.in1, Around.deeper]); omega)); k_whole; intro e' h' tk' hx')))
    | (with_reducible (k_here; (try dsimp only); (with_reducible show wpAny _ _ (call (Value.builtin _) [Value.ref _]) _ _ _); k_dflt (refine' pop_U ?F ?N ?U ?i ?l ?z ?_; (case F => k_asm); (case N => k_asm); (case U => assumption); (case i => assumption); (case l => ((try simp only [List.length_dropLast]); omega)); (case z => ((try simp only [List.length_dropLast]); omega))); intro h' t' F' N' U' m' hI'))
    | (with_reducible (k_here; (with_reducible show wpAny _ _ (call (Value.builtin "len") [Value.ref _]) _ _ _); k_dflt (refine' len_U ?N ?U rfl ?z ?_; (case N => k_asm); (case U => assumption); (case z => ((try simp only [List.length_append, List.length_cons, List.length_nil, List.length_dropLast]); omega)))))
    | (with_reducible (k_here; (with_reducible show wpAny _ _ (call (Value.builtin _) [Value.ref _, _]) _ _ _); k_dflt (refine' app_U ?F ?N ?U ?z ?_; (case F => k_asm); (case N => k_asm); (case U => assumption); (case z => omega)); intro h' F' N' U' m'))
    | walk1 | (dsimp only; walk1) | (leave1; (try dsimp only))))
  all_goals exact post _ _ _ [] _ _ (.int _ _) (by assumption) (by k_asm) (by k_asm) above_nil
theorem serve_add0 {w : World} {lH tup : Addr} {tn : Tok} {ns : List Int} {args : Array Value} (h0 : ns.length < 2) (hlen : ns.length ≤ 1000) : Does w lH ns ns (.fault (.int 2) (.int ns.length)) 3 [(tup, tupOf args)] (.ref 158) [.ref lH, .str "s.top.two.add" tn, .ref tup] := by
  unfold Does
  w_top off
  k_fill
  intro dp un gd cn cs a ccd cl outer A₀ base h₀ L m s Q E p loose mean mg mb nw' g vs n B F X N T hk hd hu hn hI U postE post
  have hm := hn _ (.head _)
  have hl := hI.length
  rw [← hl] at postE
  have hL := updMem U
  refine wpAny_call ?_
  k_dflt cell_enter
  (repeat' (first
    | (k_unfold; (try dsimp only)) | (k_end; wrow_close)
    | (with_reducible (k_here; (with_reducible show wpAny _ _ (binaryOp Operator.Mod (Value.int _ _) (Value.int _ _)) _ _ _); k_dflt (refine' mod_fact ?p ?_; (case p => omega)); intro h0' h1'))
    | (with_reducible (k_here; (with_reducible show wpAny _ _ (setItem (Value.ref _) (Value.int (-1) _) (Value.int _ _)) _ _ _); k_dflt (refine' setlast_U ?F ?N ?U ?hi ?l ?z ?_; (case F => k_asm); (case N => k_asm); (case U => assumption); (case hi => assumption); (case l => ((try simp only [List.length_append, List.length_cons, List.length_nil, List.length_dropLast]); omega)); (case z => ((try simp only [List.length_append, List.length_cons, List.length_nil, List.length_dropLast]); omega))); intro h' F' N' U' m' hI'))
    | (with_reducible (k_here; (with_reducible show wpAny _ _ (subscriptTail _ _ (Value.ref _) (Value.int (-1) _)) _ _ _); k_dflt (refine' last_U ?N ?hm ?hi ?l ?z ?_; (case N => k_asm); (case hm => assumption); (case hi => assumption); (case l => ((try simp only [List.length_append, List.length_cons, List.length_nil, List.length_dropLast]); omega)); (case z => ((try simp only [List.length_append, List.length_cons, List.length_nil, List.length_dropLast]); omega))); intro t'))
    | (with_reducible (k_here; (with_reducible show wpAny _ _ (truthy (Value.ref _)) _ _ _); k_dflt (first | (refine' tru_U ?N ?hm true ?hb ?z ?_; (case N => k_asm); (case hm => assumption); (case hb => (refine decide_eq_true ?_; omega)); (case z => omega)) | (refine' tru_U ?N ?hm false ?hb ?z ?_; (case N => k_asm); (case hm => assumption); (case hb => (refine decide_eq_false ?_; omega)); (case z => omega)))))
    | ((with_reducible show wpAny _ _ (leaving _ (Value.ref _)) _ _ _); with_reducible (k_here; k_dflt (first | (refine' leave_madeP ?k1 (Heap.MadeExc.of (by assumption)) ?k2 ?k3 ?_ ?k6 ?k5; (case k6 => exact rfl); (case k2 => assumption); (case k1 => assumption); (case k3 => k_asm); (case k5 => exact rfl); k_whole; intro h' t' R' U'; (try dsimp only at U' ⊢)) | (refine' leave_indexP ?k1 ?k0 ?k2 ?k3 ?_ ?k6 ?k5; (case k6 => exact rfl); (case k0 => assumption); (case k2 => assumption); (case k1 => assumption); (case k3 => k_asm); (case k5 => exact rfl); k_whole; intro h' R' U'; (try dsimp only at U' ⊢)) | (refine' leave_faultP ?k1 ?k0 ?k2 ?k3 ?_ ?k6 ?k5; (case k6 => exact rfl); (case k0 => assumption); (case k2 => assumption); (case k1 => assumption); (case k3 => k_asm); (case k5 => exact rfl); k_whole; intro h' t' dx' t1' t2' R' U'; (try dsimp only at U' ⊢)) | (refine' leaveOnP rfl ?k0 ?k1 ?k2 ?k3 ?k4 ?_; (case k3 => assumption); (case k0 => exact XIs.still (by assumption)); (case k1 => assumption); (case k2 => assumption); (case k4 => assumption); k_whole; intro h' R' U'; (try dsimp only at U' ⊢)))))
    | ((with_reducible show Exists _); with_reducible (k_here; refine ⟨_, rfl, MadeFault.raisable (by assumption) (by assumption) (by assumption), ?_⟩))
    | (with_reducible ((with_reducible show _ = _ ∧ _); refine ⟨rfl, ?_⟩; (try dsimp only)))
    | (with_reducible (k_here; (with_reducible show wpAny _ _ (exec (Stmt.Raise (some (Expr.Call (Expr.Name ("Fault" : Str) _) _ [] _)) none _) _) _ _ _); with_unfolding_all refine Raise_inst rfl ?_))
    | (with_reducible (k_here; (with_reducible show wpAny _ _ (call (Value.ref _) [_, _] _) _ _ _); k_dflt (refine' call_fault ?k1 ?k2 ?k3 ?k4 ?k5 ?k6 ?_; (case k1 => k_asm); (case k2 => k_asm); (case k3 => exact rfl); (case k4 => exact rfl); (case k5 => (simp only [depth_mark, depth_under_make, depth_under_kw, depth_in1, depth_deeper]; (try dsimp only [ktrTop]); omega)); (case k6 => ((try dsimp only [ktrTop, Around.in1, Around.deeper]); omega)); k_whole; intro e' h' tk' hx')))
    | (with_reducible (k_here; (try dsimp only); (with_reducible show wpAny _ _ (call (Value.builtin _) [Value.ref _]) _ _ _); k_dflt (refine' pop_U ?F ?N ?U ?i ?l ?z ?_; (case F => k_asm); (case N => k_asm); (case U => assumption); (case i => assumption); (case l => ((try simp only [List.length_dropLast]); omega)); (case z => ((try simp only [List.length_dropLast]); omega))); intro h' t' F' N' U' m' hI'))
    | (with_reducible (k_here; (with_reducible show wpAny _ _ (call (Value.builtin "len") [Value.ref _]) _ _ _); k_dflt (refine' len_U ?N ?U rfl ?z ?_; (case N => k_asm); (case U => assumption); (case z => ((try simp only [List.length_append, List.length_cons, List.length_nil, List.length_dropLast]); omega)))))
    | (with_reducible (k_here; (with_reducible show wpAny _ _ (call (Value.builtin _) [Value.ref _, _]) _ _ _); k_dflt (refine' app_U ?F ?N ?U ?z ?_; (case F => k_asm); (case N => k_asm); (case U => assumption); (case z => omega)); intro h' F' N' U' m'))
    | walk1 | (dsimp only; walk1) | (leave1; (try dsimp only))))
  all_goals exact postE _ _ rfl _ _ _ _ [] _ _ _ _ (.int _ _) (.int _ _) (.fault _ _ _ _ _ _) (by assumption) (by assumption) (by assumption) above_nil
theorem serve_add {w : World} {lH tup : Addr} {tn : Tok} {ns : List Int} {args : Array Value} (h0 : 2 ≤ ns.length) (hlen : ns.length ≤ 1000) : Does w lH ns (ns.dropLast.dropLast ++ [ns.dropLast.getLastD 0 + ns.getLastD 0]) (.int (ns.dropLast.getLastD 0 + ns.getLastD 0)) 3 [(tup, tupOf args)] (.ref 158) [.ref lH, .str "s.top.two.add" tn, .ref tup] := by
  unfold Does
  w_top off
  k_fill
  intro dp un gd cn cs a ccd cl outer A₀ base h₀ L m s Q E p loose mean mg mb nw' g vs n B F X N T hk hd hu hn hI U postE post
  have hm := hn _ (.head _)
  have hl := hI.length
  have hL := updMem U
  refine wpAny_call ?_
  k_dflt cell_enter
  (repeat' (first
    | (k_unfold; (try dsimp only)) | (k_end; wrow_close)
    | (with_reducible (k_here; (with_reducible show wpAny _ _ (binaryOp Operator.Mod (Value.int _ _) (Value.int _ _)) _ _ _); k_dflt (refine' mod_fact ?p ?_; (case p => omega)); intro h0' h1'))
    | (with_reducible (k_here; (with_reducible show wpAny _ _ (setItem (Value.ref _) (Value.int (-1) _) (Value.int _ _)) _ _ _); k_dflt (refine' setlast_U ?F ?N ?U ?hi ?l ?z ?_; (case F => k_asm); (case N => k_asm); (case U => assumption); (case hi => assumption); (case l => ((try simp only [List.length_append, List.length_cons, List.length_nil, List.length_dropLast]); omega)); (case z => ((try simp only [List.length_append, List.length_cons, List.length_nil, List.length_dropLast]); omega))); intro h' F' N' U' m' hI'))
    | (with_reducible (k_here; (with_reducible show wpAny _ _ (subscriptTail _ _ (Value.ref _) (Value.int (-1) _)) _ _ _); k_dflt (refine' last_U ?N ?hm ?hi ?l ?z ?_; (case N => k_asm); (case hm => assumption); (case hi => assumption); (case l => ((try simp only [List.length_append, List.length_cons, List.length_nil, List.length_dropLast]); omega)); (case z => ((try simp only [List.length_append, List.length_cons, List.length_nil, List.length_dropLast]); omega))); intro t'))
    | (with_reducible (k_here; (with_reducible show wpAny _ _ (truthy (Value.ref _)) _ _ _); k_dflt (first | (refine' tru_U ?N ?hm true ?hb ?z ?_; (case N => k_asm); (case hm => assumption); (case hb => (refine decide_eq_true ?_; omega)); (case z => omega)) | (refine' tru_U ?N ?hm false ?hb ?z ?_; (case N => k_asm); (case hm => assumption); (case hb => (refine decide_eq_false ?_; omega)); (case z => omega)))))
    | ((with_reducible show wpAny _ _ (leaving _ (Value.ref _)) _ _ _); with_reducible (k_here; k_dflt (first | (refine' leave_madeP ?k1 (Heap.MadeExc.of (by assumption)) ?k2 ?k3 ?_ ?k6 ?k5; (case k6 => exact rfl); (case k2 => assumption); (case k1 => assumption); (case k3 => k_asm); (case k5 => exact rfl); k_whole; intro h' t' R' U'; (try dsimp only at U' ⊢)) | (refine' leave_indexP ?k1 ?k0 ?k2 ?k3 ?_ ?k6 ?k5; (case k6 => exact rfl); (case k0 => assumption); (case k2 => assumption); (case k1 => assumption); (case k3 => k_asm); (case k5 => exact rfl); k_whole; intro h' R' U'; (try dsimp only at U' ⊢)) | (refine' leave_faultP ?k1 ?k0 ?k2 ?k3 ?_ ?k6 ?k5; (case k6 => exact rfl); (case k0 => assumption); (case k2 => assumption); (case k1 => assumption); (case k3 => k_asm); (case k5 => exact rfl); k_whole; intro h' t' dx' t1' t2' R' U'; (try dsimp only at U' ⊢)) | (refine' leaveOnP rfl ?k0 ?k1 ?k2 ?k3 ?k4 ?_; (case k3 => assumption); (case k0 => exact XIs.still (by assumption)); (case k1 => assumption); (case k2 => assumption); (case k4 => assumption); k_whole; intro h' R' U'; (try dsimp only at U' ⊢)))))
    | ((with_reducible show Exists _); with_reducible (k_here; refine ⟨_, rfl, MadeFault.raisable (by assumption) (by assumption) (by assumption), ?_⟩))
    | (with_reducible ((with_reducible show _ = _ ∧ _); refine ⟨rfl, ?_⟩; (try dsimp only)))
    | (with_reducible (k_here; (with_reducible show wpAny _ _ (exec (Stmt.Raise (some (Expr.Call (Expr.Name ("Fault" : Str) _) _ [] _)) none _) _) _ _ _); with_unfolding_all refine Raise_inst rfl ?_))
    | (with_reducible (k_here; (with_reducible show wpAny _ _ (call (Value.ref _) [_, _] _) _ _ _); k_dflt (refine' call_fault ?k1 ?k2 ?k3 ?k4 ?k5 ?k6 ?_; (case k1 => k_asm); (case k2 => k_asm); (case k3 => exact rfl); (case k4 => exact rfl); (case k5 => (simp only [depth_mark, depth_under_make, depth_under_kw, depth_in1, depth_deeper]; (try dsimp only [ktrTop]); omega)); (case k6 => ((try dsimp only [ktrTop, Around.in1, Around.deeper]); omega)); k_whole; intro e' h' tk' hx')))
    | (with_reducible (k_here; (try dsimp only); (with_reducible show wpAny _ _ (call (Value.builtin _) [Value.ref _]) _ _ _); k_dflt (refine' pop_U ?F ?N ?U ?i ?l ?z ?_; (case F => k_asm); (case N => k_asm); (case U => assumption); (case i => assumption); (case l => ((try simp only [List.length_dropLast]); omega)); (case z => ((try simp only [List.length_dropLast]); omega))); intro h' t' F' N' U' m' hI'))
    | (with_reducible (k_here; (with_reducible show wpAny _ _ (call (Value.builtin "len") [Value.ref _]) _ _ _); k_dflt (refine' len_U ?N ?U rfl ?z ?_; (case N => k_asm); (case U => assumption); (case z => ((try simp only [List.length_append, List.length_cons, List.length_nil, List.length_dropLast]); omega)))))
    | (with_reducible (k_here; (with_reducible show wpAny _ _ (call (Value.builtin _) [Value.ref _, _]) _ _ _); k_dflt (refine' app_U ?F ?N ?U ?z ?_; (case F => k_asm); (case N => k_asm); (case U => assumption); (case z => omega)); intro h' F' N' U' m'))
    | walk1 | (dsimp only; walk1) | (leave1; (try dsimp only))))
  all_goals (rw [show (ns.dropLast.dropLast ++ [ns.dropLast.getLastD 0 + ns.getLastD 0]).getLastD 0 = ns.dropLast.getLastD 0 + ns.getLastD 0 from by simp]; exact post _ _ _ [] _ _ (.int _ _) (by assumption) (by k_asm) (by k_asm) above_nil)
theorem serve_turn0 {w : World} {lH tup : Addr} {tn : Tok} {ns : List Int} {args : Array Value} (h0 : ns.length = 0) (hlen : ns.length ≤ 1000) : Does w lH ns ns .nil 3 [(tup, tupOf args)] (.ref 158) [.ref lH, .str "s.turn" tn, .ref tup] := by
  unfold Does
  w_top off
  k_fill
  intro dp un gd cn cs a ccd cl outer A₀ base h₀ L m s Q E p loose mean mg mb nw' g vs n B F X N T hk hd hu hn hI U postE post
  have hm := hn _ (.head _)
  have hl := hI.length
  have hL := updMem U
  refine wpAny_call ?_
  k_dflt cell_enter
  (repeat' (first
    | (k_unfold; (try dsimp only)) | (k_end; wrow_close)
    | (with_reducible (k_here; (with_reducible show wpAny _ _ (binaryOp Operator.Mod (Value.int _ _) (Value.int _ _)) _ _ _); k_dflt (refine' mod_fact ?p ?_; (case p => omega)); intro h0' h1'))
    | (with_reducible (k_here; (with_reducible show wpAny _ _ (setItem (Value.ref _) (Value.int (-1) _) (Value.int _ _)) _ _ _); k_dflt (refine' setlast_U ?F ?N ?U ?hi ?l ?z ?_; (case F => k_asm); (case N => k_asm); (case U => assumption); (case hi => assumption); (case l => ((try simp only [List.length_append, List.length_cons, List.length_nil, List.length_dropLast]); omega)); (case z => ((try simp only [List.length_append, List.length_cons, List.length_nil, List.length_dropLast]); omega))); intro h' F' N' U' m' hI'))
    | (with_reducible (k_here; (with_reducible show wpAny _ _ (subscriptTail _ _ (Value.ref _) (Value.int (-1) _)) _ _ _); k_dflt (refine' last_U ?N ?hm ?hi ?l ?z ?_; (case N => k_asm); (case hm => assumption); (case hi => assumption); (case l => ((try simp only [List.length_append, List.length_cons, List.length_nil, List.length_dropLast]); omega)); (case z => ((try simp only [List.length_append, List.length_cons, List.length_nil, List.length_dropLast]); omega))); intro t'))
    | (with_reducible (k_here; (with_reducible show wpAny _ _ (truthy (Value.ref _)) _ _ _); k_dflt (first | (refine' tru_U ?N ?hm true ?hb ?z ?_; (case N => k_asm); (case hm => assumption); (case hb => (refine decide_eq_true ?_; omega)); (case z => omega)) | (refine' tru_U ?N ?hm false ?hb ?z ?_; (case N => k_asm); (case hm => assumption); (case hb => (refine decide_eq_false ?_; omega)); (case z => omega)))))
    | ((with_reducible show wpAny _ _ (leaving _ (Value.ref _)) _ _ _); with_reducible (k_here; k_dflt (first | (refine' leave_madeP ?k1 (Heap.MadeExc.of (by assumption)) ?k2 ?k3 ?_ ?k6 ?k5; (case k6 => exact rfl); (case k2 => assumption); (case k1 => assumption); (case k3 => k_asm); (case k5 => exact rfl); k_whole; intro h' t' R' U'; (try dsimp only at U' ⊢)) | (refine' leave_indexP ?k1 ?k0 ?k2 ?k3 ?_ ?k6 ?k5; (case k6 => exact rfl); (case k0 => assumption); (case k2 => assumption); (case k1 => assumption); (case k3 => k_asm); (case k5 => exact rfl); k_whole; intro h' R' U'; (try dsimp only at U' ⊢)) | (refine' leave_faultP ?k1 ?k0 ?k2 ?k3 ?_ ?k6 ?k5; (case k6 => exact rfl); (case k0 => assumption); (case k2 => assumption); (case k1 => assumption); (case k3 => k_asm); (case k5 => exact rfl); k_whole; intro h' t' dx' t1' t2' R' U'; (try dsimp only at U' ⊢)) | (refine' leaveOnP rfl ?k0 ?k1 ?k2 ?k3 ?k4 ?_; (case k3 => assumption); (case k0 => exact XIs.still (by assumption)); (case k1 => assumption); (case k2 => assumption); (case k4 => assumption); k_whole; intro h' R' U'; (try dsimp only at U' ⊢)))))
    | ((with_reducible show Exists _); with_reducible (k_here; refine ⟨_, rfl, MadeFault.raisable (by assumption) (by assumption) (by assumption), ?_⟩))
    | (with_reducible ((with_reducible show _ = _ ∧ _); refine ⟨rfl, ?_⟩; (try dsimp only)))
    | (with_reducible (k_here; (with_reducible show wpAny _ _ (exec (Stmt.Raise (some (Expr.Call (Expr.Name ("Fault" : Str) _) _ [] _)) none _) _) _ _ _); with_unfolding_all refine Raise_inst rfl ?_))
    | (with_reducible (k_here; (with_reducible show wpAny _ _ (call (Value.ref _) [_, _] _) _ _ _); k_dflt (refine' call_fault ?k1 ?k2 ?k3 ?k4 ?k5 ?k6 ?_; (case k1 => k_asm); (case k2 => k_asm); (case k3 => exact rfl); (case k4 => exact rfl); (case k5 => (simp only [depth_mark, depth_under_make, depth_under_kw, depth_in1, depth_deeper]; (try dsimp only [ktrTop]); omega)); (case k6 => ((try dsimp only [ktrTop, Around.in1, Around.deeper]); omega)); k_whole; intro e' h' tk' hx')))
    | (with_reducible (k_here; (try dsimp only); (with_reducible show wpAny _ _ (call (Value.builtin _) [Value.ref _]) _ _ _); k_dflt (refine' pop_U ?F ?N ?U ?i ?l ?z ?_; (case F => k_asm); (case N => k_asm); (case U => assumption); (case i => assumption); (case l => ((try simp only [List.length_dropLast]); omega)); (case z => ((try simp only [List.length_dropLast]); omega))); intro h' t' F' N' U' m' hI'))
    | (with_reducible (k_here; (with_reducible show wpAny _ _ (call (Value.builtin "len") [Value.ref _]) _ _ _); k_dflt (refine' len_U ?N ?U rfl ?z ?_; (case N => k_asm); (case U => assumption); (case z => ((try simp only [List.length_append, List.length_cons, List.length_nil, List.length_dropLast]); omega)))))
    | (with_reducible (k_here; (with_reducible show wpAny _ _ (call (Value.builtin _) [Value.ref _, _]) _ _ _); k_dflt (refine' app_U ?F ?N ?U ?z ?_; (case F => k_asm); (case N => k_asm); (case U => assumption); (case z => omega)); intro h' F' N' U' m'))
    | walk1 | (dsimp only; walk1) | (leave1; (try dsimp only))))
  rename ∀ p ∈ nw', _ < _ => hA1
  all_goals exact post _ _ _ [_] _ _ (.nil _ _ (.head _)) hI (by k_asm) (by rw [updSelf U]; k_asm) (above_cons hA1 above_nil)
theorem serve_turn {w : World} {lH tup : Addr} {tn : Tok} {ns : List Int} {y : Int} {ty : Tok} (h0 : 0 < ns.length) (hlen : ns.length ≤ 1000) : Does w lH ns (ns.drop (y.fmod ns.length).toNat ++ ns.take (y.fmod ns.length).toNat) (.two ((ns.drop (y.fmod ns.length).toNat ++ ns.take (y.fmod ns.length).toNat).getD 0 0) ((ns.drop (y.fmod ns.length).toNat ++ ns.take (y.fmod ns.length).toNat).getLastD 0)) 3 [(tup, tupOf #[.int y ty])] (.ref 158) [.ref lH, .str "s.turn" tn, .ref tup] := by
  unfold Does
  w_top off
  k_fill
  intro dp un gd cn cs a ccd cl outer A₀ base h₀ L m s Q E p loose mean mg mb nw' g vs n B F X N T hk hd hu hn hI U postE post
  have hm := hn _ (.head _)
  have hl := hI.length
  have hL := updMem U
  refine wpAny_call ?_
  k_dflt cell_enter
  (repeat' (first
    | (k_unfold; (try dsimp only)) | (k_end; wrow_close)
    | (with_reducible (k_here; (with_reducible show wpAny _ _ (binaryOp Operator.Mod (Value.int _ _) (Value.int _ _)) _ _ _); k_dflt (refine' mod_fact ?p ?_; (case p => omega)); intro h0' h1'))
    | (with_reducible (k_here; (with_reducible show wpAny _ _ (setItem (Value.ref _) (Value.int (-1) _) (Value.int _ _)) _ _ _); k_dflt (refine' setlast_U ?F ?N ?U ?hi ?l ?z ?_; (case F => k_asm); (case N => k_asm); (case U => assumption); (case hi => assumption); (case l => ((try simp only [List.length_append, List.length_cons, List.length_nil, List.length_dropLast]); omega)); (case z => ((try simp only [List.length_append, List.length_cons, List.length_nil, List.length_dropLast]); omega))); intro h' F' N' U' m' hI'))
    | (with_reducible (k_here; (with_reducible show wpAny _ _ (subscriptTail _ _ (Value.ref _) (Value.int (-1) _)) _ _ _); k_dflt (refine' last_U ?N ?hm ?hi ?l ?z ?_; (case N => k_asm); (case hm => assumption); (case hi => assumption); (case l => ((try simp only [List.length_append, List.length_cons, List.length_nil, List.length_dropLast]); omega)); (case z => ((try simp only [List.length_append, List.length_cons, List.length_nil, List.length_dropLast]); omega))); intro t'))
    | (with_reducible (k_here; (with_reducible show wpAny _ _ (truthy (Value.ref _)) _ _ _); k_dflt (first | (refine' tru_U ?N ?hm true ?hb ?z ?_; (case N => k_asm); (case hm => assumption); (case hb => (refine decide_eq_true ?_; omega)); (case z => omega)) | (refine' tru_U ?N ?hm false ?hb ?z ?_; (case N => k_asm); (case hm => assumption); (case hb => (refine decide_eq_false ?_; omega)); (case z => omega)))))
    | ((with_reducible show wpAny _ _ (leaving _ (Value.ref _)) _ _ _); with_reducible (k_here; k_dflt (first | (refine' leave_madeP ?k1 (Heap.MadeExc.of (by assumption)) ?k2 ?k3 ?_ ?k6 ?k5; (case k6 => exact rfl); (case k2 => assumption); (case k1 => assumption); (case k3 => k_asm); (case k5 => exact rfl); k_whole; intro h' t' R' U'; (try dsimp only at U' ⊢)) | (refine' leave_indexP ?k1 ?k0 ?k2 ?k3 ?_ ?k6 ?k5; (case k6 => exact rfl); (case k0 => assumption); (case k2 => assumption); (case k1 => assumption); (case k3 => k_asm); (case k5 => exact rfl); k_whole; intro h' R' U'; (try dsimp only at U' ⊢)) | (refine' leave_faultP ?k1 ?k0 ?k2 ?k3 ?_ ?k6 ?k5; (case k6 => exact rfl); (case k0 => assumption); (case k2 => assumption); (case k1 => assumption); (case k3 => k_asm); (case k5 => exact rfl); k_whole; intro h' t' dx' t1' t2' R' U'; (try dsimp only at U' ⊢)) | (refine' leaveOnP rfl ?k0 ?k1 ?k2 ?k3 ?k4 ?_; (case k3 => assumption); (case k0 => exact XIs.still (by assumption)); (case k1 => assumption); (case k2 => assumption); (case k4 => assumption); k_whole; intro h' R' U'; (try dsimp only at U' ⊢)))))
    | ((with_reducible show Exists _); with_reducible (k_here; refine ⟨_, rfl, MadeFault.raisable (by assumption) (by assumption) (by assumption), ?_⟩))
    | (with_reducible ((with_reducible show _ = _ ∧ _); refine ⟨rfl, ?_⟩; (try dsimp only)))
    | (with_reducible (k_here; (with_reducible show wpAny _ _ (exec (Stmt.Raise (some (Expr.Call (Expr.Name ("Fault" : Str) _) _ [] _)) none _) _) _ _ _); with_unfolding_all refine Raise_inst rfl ?_))
    | (with_reducible (k_here; (with_reducible show wpAny _ _ (call (Value.ref _) [_, _] _) _ _ _); k_dflt (refine' call_fault ?k1 ?k2 ?k3 ?k4 ?k5 ?k6 ?_; (case k1 => k_asm); (case k2 => k_asm); (case k3 => exact rfl); (case k4 => exact rfl); (case k5 => (simp only [depth_mark, depth_under_make, depth_under_kw, depth_in1, depth_deeper]; (try dsimp only [ktrTop]); omega)); (case k6 => ((try dsimp only [ktrTop, Around.in1, Around.deeper]); omega)); k_whole; intro e' h' tk' hx')))
    | (with_reducible (k_here; (try dsimp only); (with_reducible show wpAny _ _ (call (Value.builtin _) [Value.ref _]) _ _ _); k_dflt (refine' pop_U ?F ?N ?U ?i ?l ?z ?_; (case F => k_asm); (case N => k_asm); (case U => assumption); (case i => assumption); (case l => ((try simp only [List.length_dropLast]); omega)); (case z => ((try simp only [List.length_dropLast]); omega))); intro h' t' F' N' U' m' hI'))
    | (with_reducible (k_here; (with_reducible show wpAny _ _ (call (Value.builtin "len") [Value.ref _]) _ _ _); k_dflt (refine' len_U ?N ?U rfl ?z ?_; (case N => k_asm); (case U => assumption); (case z => ((try simp only [List.length_append, List.length_cons, List.length_nil, List.length_dropLast]); omega)))))
    | (with_reducible (k_here; (with_reducible show wpAny _ _ (call (Value.builtin _) [Value.ref _, _]) _ _ _); k_dflt (refine' app_U ?F ?N ?U ?z ?_; (case F => k_asm); (case N => k_asm); (case U => assumption); (case z => omega)); intro h' F' N' U' m'))
    | walk1 | (dsimp only; walk1) | (leave1; (try dsimp only))))
  rename IntsAre _ (_ ++ _) => hI3
  rename _ < _ ∧ _ < _ ∧ AllLt _ _ => hA3
  rename _ < _ ∧ AllLt _ _ => hA2
  rename ∀ p ∈ nw', _ < _ => hA1
  have hA2' := ktn_ltOf hA2.2
  have hA3' := ktn_ltOf hA3.2.2
  have hl3 := hI3.length
  simp only [List.length_append, List.length_drop, List.length_take] at hl3
  (try dsimp only)
  refine setall_U (by k_asm) (by k_asm) (.tail (Nat.ne_of_gt (hA3' _ hL)) (.tail (Nat.ne_of_gt (hA2' _ hL)) (.tail (Nat.ne_of_gt (hA1 _ hL)) U))) (.head _) (Nat.ne_of_lt (hA3' _ hL)) (by omega) (by omega) ?_
  intro h4 F4 N4 U4 m4
  (try dsimp only at N4); (try dsimp only at m4)
  (repeat' (first
    | (k_unfold; (try dsimp only)) | (k_end; wrow_close)
    | (with_reducible (k_here; (with_reducible show wpAny _ _ (binaryOp Operator.Mod (Value.int _ _) (Value.int _ _)) _ _ _); k_dflt (refine' mod_fact ?p ?_; (case p => omega)); intro h0' h1'))
    | (with_reducible (k_here; (with_reducible show wpAny _ _ (setItem (Value.ref _) (Value.int (-1) _) (Value.int _ _)) _ _ _); k_dflt (refine' setlast_U ?F ?N ?U ?hi ?l ?z ?_; (case F => k_asm); (case N => k_asm); (case U => assumption); (case hi => assumption); (case l => ((try simp only [List.length_append, List.length_cons, List.length_nil, List.length_dropLast]); omega)); (case z => ((try simp only [List.length_append, List.length_cons, List.length_nil, List.length_dropLast]); omega))); intro h' F' N' U' m' hI'))
    | (with_reducible (k_here; (with_reducible show wpAny _ _ (subscriptTail _ _ (Value.ref _) (Value.int (-1) _)) _ _ _); k_dflt (refine' last_U ?N ?hm ?hi ?l ?z ?_; (case N => k_asm); (case hm => assumption); (case hi => assumption); (case l => ((try simp only [List.length_append, List.length_cons, List.length_nil, List.length_dropLast]); omega)); (case z => ((try simp only [List.length_append, List.length_cons, List.length_nil, List.length_dropLast]); omega))); intro t'))
    | (with_reducible (k_here; (with_reducible show wpAny _ _ (truthy (Value.ref _)) _ _ _); k_dflt (first | (refine' tru_U ?N ?hm true ?hb ?z ?_; (case N => k_asm); (case hm => assumption); (case hb => (refine decide_eq_true ?_; omega)); (case z => omega)) | (refine' tru_U ?N ?hm false ?hb ?z ?_; (case N => k_asm); (case hm => assumption); (case hb => (refine decide_eq_false ?_; omega)); (case z => omega)))))
    | ((with_reducible show wpAny _ _ (leaving _ (Value.ref _)) _ _ _); with_reducible (k_here; k_dflt (first | (refine' leave_madeP ?k1 (Heap.MadeExc.of (by assumption)) ?k2 ?k3 ?_ ?k6 ?k5; (case k6 => exact rfl); (case k2 => assumption); (case k1 => assumption); (case k3 => k_asm); (case k5 => exact rfl); k_whole; intro h' t' R' U'; (try dsimp only at U' ⊢)) | (refine' leave_indexP ?k1 ?k0 ?k2 ?k3 ?_ ?k6 ?k5; (case k6 => exact rfl); (case k0 => assumption); (case k2 => assumption); (case k1 => assumption); (case k3 => k_asm); (case k5 => exact rfl); k_whole; intro h' R' U'; (try dsimp only at U' ⊢)) | (refine' leave_faultP ?k1 ?k0 ?k2 ?k3 ?_ ?k6 ?k5; (case k6 => exact rfl); (case k0 => assumption); (case k2 => assumption); (case k1 => assumption); (case k3 => k_asm); (case k5 => exact rfl); k_whole; intro h' t' dx' t1' t2' R' U'; (try dsimp only at U' ⊢)) | (refine' leaveOnP rfl ?k0 ?k1 ?k2 ?k3 ?k4 ?_; (case k3 => assumption); (case k0 => exact XIs.still (by assumption)); (case k1 => assumption); (case k2 => assumption); (case k4 => assumption); k_whole; intro h' R' U'; (try dsimp only at U' ⊢)))))
    | ((with_reducible show Exists _); with_reducible (k_here; refine ⟨_, rfl, MadeFault.raisable (by assumption) (by assumption) (by assumption), ?_⟩))
    | (with_reducible ((with_reducible show _ = _ ∧ _); refine ⟨rfl, ?_⟩; (try dsimp only)))
    | (with_reducible (k_here; (with_reducible show wpAny _ _ (exec (Stmt.Raise (some (Expr.Call (Expr.Name ("Fault" : Str) _) _ [] _)) none _) _) _ _ _); with_unfolding_all refine Raise_inst rfl ?_))
    | (with_reducible (k_here; (with_reducible show wpAny _ _ (call (Value.ref _) [_, _] _) _ _ _); k_dflt (refine' call_fault ?k1 ?k2 ?k3 ?k4 ?k5 ?k6 ?_; (case k1 => k_asm); (case k2 => k_asm); (case k3 => exact rfl); (case k4 => exact rfl); (case k5 => (simp only [depth_mark, depth_under_make, depth_under_kw, depth_in1, depth_deeper]; (try dsimp only [ktrTop]); omega)); (case k6 => ((try dsimp only [ktrTop, Around.in1, Around.deeper]); omega)); k_whole; intro e' h' tk' hx')))
    | (with_reducible (k_here; (try dsimp only); (with_reducible show wpAny _ _ (call (Value.builtin _) [Value.ref _]) _ _ _); k_dflt (refine' pop_U ?F ?N ?U ?i ?l ?z ?_; (case F => k_asm); (case N => k_asm); (case U => assumption); (case i => assumption); (case l => ((try simp only [List.length_dropLast]); omega)); (case z => ((try simp only [List.length_dropLast]); omega))); intro h' t' F' N' U' m' hI'))
    | (with_reducible (k_here; (with_reducible show wpAny _ _ (call (Value.builtin "len") [Value.ref _]) _ _ _); k_dflt (refine' len_U ?N ?U rfl ?z ?_; (case N => k_asm); (case U => assumption); (case z => ((try simp only [List.length_append, List.length_cons, List.length_nil, List.length_dropLast]); omega)))))
    | (with_reducible (k_here; (with_reducible show wpAny _ _ (call (Value.builtin _) [Value.ref _, _]) _ _ _); k_dflt (refine' app_U ?F ?N ?U ?z ?_; (case F => k_asm); (case N => k_asm); (case U => assumption); (case z => omega)); intro h' F' N' U' m'))
    | walk1 | (dsimp only; walk1) | (leave1; (try dsimp only))))
  rename _ < _ ∧ _ < _ ∧ _ < _ ∧ AllLt _ _ => hA4
  have hA4' := updLt U (ktn_ltOf hA4.2.2.2)
  rw [← hl] at post
  all_goals exact post _ _ _ [_, _, _, _] _ _ (.two _ _ _ _ _ _ (.head _)) hI3 (by k_asm) (by k_asm) (above_cons hA4' (above_cons hA3' (above_cons hA2' (above_cons hA1 above_nil))))
theorem serve_look0 {w : World} {lH tup : Addr} {tn : Tok} {ns : List Int} {y : Int} {ty tp : Tok} (h0 : (ns.length : Int) ≤ y) (hlen : ns.length ≤ 1000) : Does w lH ns ns (.fault (.int 3) (.pair y "please")) 3 [(tup, tupOf #[.int y ty, .str "please" tp])] (.ref 158) [.ref lH, .str "s.look.at" tn, .ref tup] := by
  unfold Does
  w_top off
  k_fill
  intro dp un gd cn cs a ccd cl outer A₀ base h₀ L m s Q E p loose mean mg mb nw' g vs n B F X N T hk hd hu hn hI U postE post
  have hm := hn _ (.head _)
  have hl := hI.length
  have hL := updMem U
  refine wpAny_call ?_
  k_dflt cell_enter
  (repeat' (first
    | (k_unfold; (try dsimp only)) | (k_end; wrow_close)
    | (with_reducible (k_here; (with_reducible show wpAny _ _ (binaryOp Operator.Mod (Value.int _ _) (Value.int _ _)) _ _ _); k_dflt (refine' mod_fact ?p ?_; (case p => omega)); intro h0' h1'))
    | (with_reducible (k_here; (with_reducible show wpAny _ _ (setItem (Value.ref _) (Value.int (-1) _) (Value.int _ _)) _ _ _); k_dflt (refine' setlast_U ?F ?N ?U ?hi ?l ?z ?_; (case F => k_asm); (case N => k_asm); (case U => assumption); (case hi => assumption); (case l => ((try simp only [List.length_append, List.length_cons, List.length_nil, List.length_dropLast]); omega)); (case z => ((try simp only [List.length_append, List.length_cons, List.length_nil, List.length_dropLast]); omega))); intro h' F' N' U' m' hI'))
    | (with_reducible (k_here; (with_reducible show wpAny _ _ (subscriptTail _ _ (Value.ref _) (Value.int (-1) _)) _ _ _); k_dflt (refine' last_U ?N ?hm ?hi ?l ?z ?_; (case N => k_asm); (case hm => assumption); (case hi => assumption); (case l => ((try simp only [List.length_append, List.length_cons, List.length_nil, List.length_dropLast]); omega)); (case z => ((try simp only [List.length_append, List.length_cons, List.length_nil, List.length_dropLast]); omega))); intro t'))
    | (with_reducible (k_here; (with_reducible show wpAny _ _ (truthy (Value.ref _)) _ _ _); k_dflt (first | (refine' tru_U ?N ?hm true ?hb ?z ?_; (case N => k_asm); (case hm => assumption); (case hb => (refine decide_eq_true ?_; omega)); (case z => omega)) | (refine' tru_U ?N ?hm false ?hb ?z ?_; (case N => k_asm); (case hm => assumption); (case hb => (refine decide_eq_false ?_; omega)); (case z => omega)))))
    | ((with_reducible show wpAny _ _ (leaving _ (Value.ref _)) _ _ _); with_reducible (k_here; k_dflt (first | (refine' leave_madeP ?k1 (Heap.MadeExc.of (by assumption)) ?k2 ?k3 ?_ ?k6 ?k5; (case k6 => exact rfl); (case k2 => assumption); (case k1 => assumption); (case k3 => k_asm); (case k5 => exact rfl); k_whole; intro h' t' R' U'; (try dsimp only at U' ⊢)) | (refine' leave_indexP ?k1 ?k0 ?k2 ?k3 ?_ ?k6 ?k5; (case k6 => exact rfl); (case k0 => assumption); (case k2 => assumption); (case k1 => assumption); (case k3 => k_asm); (case k5 => exact rfl); k_whole; intro h' R' U'; (try dsimp only at U' ⊢)) | (refine' leave_faultP ?k1 ?k0 ?k2 ?k3 ?_ ?k6 ?k5; (case k6 => exact rfl); (case k0 => assumption); (case k2 => assumption); (case k1 => assumption); (case k3 => k_asm); (case k5 => exact rfl); k_whole; intro h' t' dx' t1' t2' R' U'; (try dsimp only at U' ⊢)) | (refine' leaveOnP rfl ?k0 ?k1 ?k2 ?k3 ?k4 ?_; (case k3 => assumption); (case k0 => exact XIs.still (by assumption)); (case k1 => assumption); (case k2 => assumption); (case k4 => assumption); k_whole; intro h' R' U'; (try dsimp only at U' ⊢)))))
    | ((with_reducible show Exists _); with_reducible (k_here; refine ⟨_, rfl, MadeFault.raisable (by assumption) (by assumption) (by assumption), ?_⟩))
    | (with_reducible ((with_reducible show _ = _ ∧ _); refine ⟨rfl, ?_⟩; (try dsimp only)))
    | (with_reducible (k_here; (with_reducible show wpAny _ _ (exec (Stmt.Raise (some (Expr.Call (Expr.Name ("Fault" : Str) _) _ [] _)) none _) _) _ _ _); with_unfolding_all refine Raise_inst rfl ?_))
    | (with_reducible (k_here; (with_reducible show wpAny _ _ (call (Value.ref _) [_, _] _) _ _ _); k_dflt (refine' call_fault ?k1 ?k2 ?k3 ?k4 ?k5 ?k6 ?_; (case k1 => k_asm); (case k2 => k_asm); (case k3 => exact rfl); (case k4 => exact rfl); (case k5 => (simp only [depth_mark, depth_under_make, depth_under_kw, depth_in1, depth_deeper]; (try dsimp only [ktrTop]); omega)); (case k6 => ((try dsimp only [ktrTop, Around.in1, Around.deeper]); omega)); k_whole; intro e' h' tk' hx')))
    | (with_reducible (k_here; (try dsimp only); (with_reducible show wpAny _ _ (call (Value.builtin _) [Value.ref _]) _ _ _); k_dflt (refine' pop_U ?F ?N ?U ?i ?l ?z ?_; (case F => k_asm); (case N => k_asm); (case U => assumption); (case i => assumption); (case l => ((try simp only [List.length_dropLast]); omega)); (case z => ((try simp only [List.length_dropLast]); omega))); intro h' t' F' N' U' m' hI'))
    | (with_reducible (k_here; (with_reducible show wpAny _ _ (call (Value.builtin "len") [Value.ref _]) _ _ _); k_dflt (refine' len_U ?N ?U rfl ?z ?_; (case N => k_asm); (case U => assumption); (case z => ((try simp only [List.length_append, List.length_cons, List.length_nil, List.length_dropLast]); omega)))))
    | (with_reducible (k_here; (with_reducible show wpAny _ _ (call (Value.builtin _) [Value.ref _, _]) _ _ _); k_dflt (refine' app_U ?F ?N ?U ?z ?_; (case F => k_asm); (case N => k_asm); (case U => assumption); (case z => omega)); intro h' F' N' U' m'))
    | walk1 | (dsimp only; walk1) | (leave1; (try dsimp only))))
  rename ∀ p ∈ nw', _ < _ => hA1
  all_goals exact postE _ _ rfl _ _ _ _ [_] _ _ _ _ (.int _ _) (.pair _ _ _ _ _ _ (.head _)) (.fault _ _ _ _ _ _) (by assumption) (by assumption) (by assumption) (above_cons hA1 above_nil)
theorem serve_look {w : World} {lH tup : Addr} {tn : Tok} {ns : List Int} {y : Int} {ty tp : Tok} (h0 : 0 ≤ y) (h1 : y < ns.length) (hlen : ns.length ≤ 1000) : Does w lH ns ns (.int (ns.getD y.toNat 0)) 3 [(tup, tupOf #[.int y ty, .str "please" tp])] (.ref 158) [.ref lH, .str "s.look.at" tn, .ref tup] := by
  unfold Does
  w_top off
  k_fill
  intro dp un gd cn cs a ccd cl outer A₀ base h₀ L m s Q E p loose mean mg mb nw' g vs n B F X N T hk hd hu hn hI U postE post
  have hm := hn _ (.head _)
  have hl := hI.length
  have hL := updMem U
  refine wpAny_call ?_
  k_dflt cell_enter
  (repeat' (first
    | (k_unfold; (try dsimp only)) | (k_end; wrow_close)
    | (with_reducible (k_here; (with_reducible show wpAny _ _ (binaryOp Operator.Mod (Value.int _ _) (Value.int _ _)) _ _ _); k_dflt (refine' mod_fact ?p ?_; (case p => omega)); intro h0' h1'))
    | (with_reducible (k_here; (with_reducible show wpAny _ _ (setItem (Value.ref _) (Value.int (-1) _) (Value.int _ _)) _ _ _); k_dflt (refine' setlast_U ?F ?N ?U ?hi ?l ?z ?_; (case F => k_asm); (case N => k_asm); (case U => assumption); (case hi => assumption); (case l => ((try simp only [List.length_append, List.length_cons, List.length_nil, List.length_dropLast]); omega)); (case z => ((try simp only [List.length_append, List.length_cons, List.length_nil, List.length_dropLast]); omega))); intro h' F' N' U' m' hI'))
    | (with_reducible (k_here; (with_reducible show wpAny _ _ (subscriptTail _ _ (Value.ref _) (Value.int (-1) _)) _ _ _); k_dflt (refine' last_U ?N ?hm ?hi ?l ?z ?_; (case N => k_asm); (case hm => assumption); (case hi => assumption); (case l => ((try simp only [List.length_append, List.length_cons, List.length_nil, List.length_dropLast]); omega)); (case z => ((try simp only [List.length_append, List.length_cons, List.length_nil, List.length_dropLast]); omega))); intro t'))
    | (with_reducible (k_here; (with_reducible show wpAny _ _ (truthy (Value.ref _)) _ _ _); k_dflt (first | (refine' tru_U ?N ?hm true ?hb ?z ?_; (case N => k_asm); (case hm => assumption); (case hb => (refine decide_eq_true ?_; omega)); (case z => omega)) | (refine' tru_U ?N ?hm false ?hb ?z ?_; (case N => k_asm); (case hm => assumption); (case hb => (refine decide_eq_false ?_; omega)); (case z => omega)))))
    | ((with_reducible show wpAny _ _ (leaving _ (Value.ref _)) _ _ _); with_reducible (k_here; k_dflt (first | (refine' leave_madeP ?k1 (Heap.MadeExc.of (by assumption)) ?k2 ?k3 ?_ ?k6 ?k5; (case k6 => exact rfl); (case k2 => assumption); (case k1 => assumption); (case k3 => k_asm); (case k5 => exact rfl); k_whole; intro h' t' R' U'; (try dsimp only at U' ⊢)) | (refine' leave_indexP ?k1 ?k0 ?k2 ?k3 ?_ ?k6 ?k5; (case k6 => exact rfl); (case k0 => assumption); (case k2 => assumption); (case k1 => assumption); (case k3 => k_asm); (case k5 => exact rfl); k_whole; intro h' R' U'; (try dsimp only at U' ⊢)) | (refine' leave_faultP ?k1 ?k0 ?k2 ?k3 ?_ ?k6 ?k5; (case k6 => exact rfl); (case k0 => assumption); (case k2 => assumption); (case k1 => assumption); (case k3 => k_asm); (case k5 => exact rfl); k_whole; intro h' t' dx' t1' t2' R' U'; (try dsimp only at U' ⊢)) | (refine' leaveOnP rfl ?k0 ?k1 ?k2 ?k3 ?k4 ?_; (case k3 => assumption); (case k0 => exact XIs.still (by assumption)); (case k1 => assumption); (case k2 => assumption); (case k4 => assumption); k_whole; intro h' R' U'; (try dsimp only at U' ⊢)))))
    | ((with_reducible show Exists _); with_reducible (k_here; refine ⟨_, rfl, MadeFault.raisable (by assumption) (by assumption) (by assumption), ?_⟩))
    | (with_reducible ((with_reducible show _ = _ ∧ _); refine ⟨rfl, ?_⟩; (try dsimp only)))
    | (with_reducible (k_here; (with_reducible show wpAny _ _ (exec (Stmt.Raise (some (Expr.Call (Expr.Name ("Fault" : Str) _) _ [] _)) none _) _) _ _ _); with_unfolding_all refine Raise_inst rfl ?_))
    | (with_reducible (k_here; (with_reducible show wpAny _ _ (call (Value.ref _) [_, _] _) _ _ _); k_dflt (refine' call_fault ?k1 ?k2 ?k3 ?k4 ?k5 ?k6 ?_; (case k1 => k_asm); (case k2 => k_asm); (case k3 => exact rfl); (case k4 => exact rfl); (case k5 => (simp only [depth_mark, depth_under_make, depth_under_kw, depth_in1, depth_deeper]; (try dsimp only [ktrTop]); omega)); (case k6 => ((try dsimp only [ktrTop, Around.in1, Around.deeper]); omega)); k_whole; intro e' h' tk' hx')))
    | (with_reducible (k_here; (try dsimp only); (with_reducible show wpAny _ _ (call (Value.builtin _) [Value.ref _]) _ _ _); k_dflt (refine' pop_U ?F ?N ?U ?i ?l ?z ?_; (case F => k_asm); (case N => k_asm); (case U => assumption); (case i => assumption); (case l => ((try simp only [List.length_dropLast]); omega)); (case z => ((try simp only [List.length_dropLast]); omega))); intro h' t' F' N' U' m' hI'))
    | (with_reducible (k_here; (with_reducible show wpAny _ _ (call (Value.builtin "len") [Value.ref _]) _ _ _); k_dflt (refine' len_U ?N ?U rfl ?z ?_; (case N => k_asm); (case U => assumption); (case z => ((try simp only [List.length_append, List.length_cons, List.length_nil, List.length_dropLast]); omega)))))
    | (with_reducible (k_here; (with_reducible show wpAny _ _ (call (Value.builtin _) [Value.ref _, _]) _ _ _); k_dflt (refine' app_U ?F ?N ?U ?z ?_; (case F => k_asm); (case N => k_asm); (case U => assumption); (case z => omega)); intro h' F' N' U' m'))
    | walk1 | (dsimp only; walk1) | (leave1; (try dsimp only))))
  all_goals exact post _ _ _ [] _ _ (.int _ _) hI (by k_asm) (by rw [updSelf U]; k_asm) above_nil
theorem serve_other {w : World} {lH tup : Addr} {tn : Tok} {ns : List Int} {args : Array Value}  (hlen : ns.length ≤ 1000) : Does w lH ns ns (.fault (.int 4) (.str "s._no.such")) 3 [(tup, tupOf args)] (.ref 158) [.ref lH, .str "s._no.such" tn, .ref tup] := by
  unfold Does
  w_top off
  k_fill
  intro dp un gd cn cs a ccd cl outer A₀ base h₀ L m s Q E p loose mean mg mb nw' g vs n B F X N T hk hd hu hn hI U postE post
  have hm := hn _ (.head _)
  have hl := hI.length
  have hL := updMem U
  refine wpAny_call ?_
  k_dflt cell_enter
  (repeat' (first
    | (k_unfold; (try dsimp only)) | (k_end; wrow_close)
    | (with_reducible (k_here; (with_reducible show wpAny _ _ (binaryOp Operator.Mod (Value.int _ _) (Value.int _ _)) _ _ _); k_dflt (refine' mod_fact ?p ?_; (case p => omega)); intro h0' h1'))
    | (with_reducible (k_here; (with_reducible show wpAny _ _ (setItem (Value.ref _) (Value.int (-1) _) (Value.int _ _)) _ _ _); k_dflt (refine' setlast_U ?F ?N ?U ?hi ?l ?z ?_; (case F => k_asm); (case N => k_asm); (case U => assumption); (case hi => assumption); (case l => ((try simp only [List.length_append, List.length_cons, List.length_nil, List.length_dropLast]); omega)); (case z => ((try simp only [List.length_append, List.length_cons, List.length_nil, List.length_dropLast]); omega))); intro h' F' N' U' m' hI'))
    | (with_reducible (k_here; (with_reducible show wpAny _ _ (subscriptTail _ _ (Value.ref _) (Value.int (-1) _)) _ _ _); k_dflt (refine' last_U ?N ?hm ?hi ?l ?z ?_; (case N => k_asm); (case hm => assumption); (case hi => assumption); (case l => ((try simp only [List.length_append, List.length_cons, List.length_nil, List.length_dropLast]); omega)); (case z => ((try simp only [List.length_append, List.length_cons, List.length_nil, List.length_dropLast]); omega))); intro t'))
    | (with_reducible (k_here; (with_reducible show wpAny _ _ (truthy (Value.ref _)) _ _ _); k_dflt (first | (refine' tru_U ?N ?hm true ?hb ?z ?_; (case N => k_asm); (case hm => assumption); (case hb => (refine decide_eq_true ?_; omega)); (case z => omega)) | (refine' tru_U ?N ?hm false ?hb ?z ?_; (case N => k_asm); (case hm => assumption); (case hb => (refine decide_eq_false ?_; omega)); (case z => omega)))))
    | ((with_reducible show wpAny _ _ (leaving _ (Value.ref _)) _ _ _); with_reducible (k_here; k_dflt (first | (refine' leave_madeP ?k1 (Heap.MadeExc.of (by assumption)) ?k2 ?k3 ?_ ?k6 ?k5; (case k6 => exact rfl); (case k2 => assumption); (case k1 => assumption); (case k3 => k_asm); (case k5 => exact rfl); k_whole; intro h' t' R' U'; (try dsimp only at U' ⊢)) | (refine' leave_indexP ?k1 ?k0 ?k2 ?k3 ?_ ?k6 ?k5; (case k6 => exact rfl); (case k0 => assumption); (case k2 => assumption); (case k1 => assumption); (case k3 => k_asm); (case k5 => exact rfl); k_whole; intro h' R' U'; (try dsimp only at U' ⊢)) | (refine' leave_faultP ?k1 ?k0 ?k2 ?k3 ?_ ?k6 ?k5; (case k6 => exact rfl); (case k0 => assumption); (case k2 => assumption); (case k1 => assumption); (case k3 => k_asm); (case k5 => exact rfl); k_whole; intro h' t' dx' t1' t2' R' U'; (try dsimp only at U' ⊢)) | (refine' leaveOnP rfl ?k0 ?k1 ?k2 ?k3 ?k4 ?_; (case k3 => assumption); (case k0 => exact XIs.still (by assumption)); (case k1 => assumption); (case k2 => assumption); (case k4 => assumption); k_whole; intro h' R' U'; (try dsimp only at U' ⊢)))))
    | ((with_reducible show Exists _); with_reducible (k_here; refine ⟨_, rfl, MadeFault.raisable (by assumption) (by assumption) (by assumption), ?_⟩))
    | (with_reducible ((with_reducible show _ = _ ∧ _); refine ⟨rfl, ?_⟩; (try dsimp only)))
    | (with_reducible (k_here; (with_reducible show wpAny _ _ (exec (Stmt.Raise (some (Expr.Call (Expr.Name ("Fault" : Str) _) _ [] _)) none _) _) _ _ _); with_unfolding_all refine Raise_inst rfl ?_))
    | (with_reducible (k_here; (with_reducible show wpAny _ _ (call (Value.ref _) [_, _] _) _ _ _); k_dflt (refine' call_fault ?k1 ?k2 ?k3 ?k4 ?k5 ?k6 ?_; (case k1 => k_asm); (case k2 => k_asm); (case k3 => exact rfl); (case k4 => exact rfl); (case k5 => (simp only [depth_mark, depth_under_make, depth_under_kw, depth_in1, depth_deeper]; (try dsimp only [ktrTop]); omega)); (case k6 => ((try dsimp only [ktrTop, Around.in1, Around.deeper]); omega)); k_whole; intro e' h' tk' hx')))
    | (with_reducible (k_here; (try dsimp only); (with_reducible show wpAny _ _ (call (Value.builtin _) [Value.ref _]) _ _ _); k_dflt (refine' pop_U ?F ?N ?U ?i ?l ?z ?_; (case F => k_asm); (case N => k_asm); (case U => assumption); (case i => assumption); (case l => ((try simp only [List.length_dropLast]); omega)); (case z => ((try simp only [List.length_dropLast]); omega))); intro h' t' F' N' U' m' hI'))
    | (with_reducible (k_here; (with_reducible show wpAny _ _ (call (Value.builtin "len") [Value.ref _]) _ _ _); k_dflt (refine' len_U ?N ?U rfl ?z ?_; (case N => k_asm); (case U => assumption); (case z => ((try simp only [List.length_append, List.length_cons, List.length_nil, List.length_dropLast]); omega)))))
    | (with_reducible (k_here; (with_reducible show wpAny _ _ (call (Value.builtin _) [Value.ref _, _]) _ _ _); k_dflt (refine' app_U ?F ?N ?U ?z ?_; (case F => k_asm); (case N => k_asm); (case U => assumption); (case z => omega)); intro h' F' N' U' m'))
    | walk1 | (dsimp only; walk1) | (leave1; (try dsimp only))))
  all_goals exact postE _ _ rfl _ _ _ _ [] _ _ _ _ (.int _ _) (.str _ _) (.fault _ _ _ _ _ _) (by assumption) (by assumption) (by assumption) above_nil
end Mine
end
section
open PySem PySem.W PyProof.Rows PySem.Calls
set_option Elab.async false
set_option maxRecDepth 100000
set_option maxHeartbeats 8000000
namespace Mine
section
variable {A₀ A : Around} {s : Shared} {base h₀ : Heap} {outer : List Env} {L : Addr} {m : Str → Option Value} {env : Env} {news : List (Addr × Obj)} {K : Frag} {p : Program} {loose : List Str} {mean : ExcName → Option Value} {mg mb : Str → Option Value}
/-- a call that may catch an exception: the ground of the callee's frame, and the way back to the caller's -/
theorem groundS (B : Below A₀ base outer h₀) (F : Fr h₀ L s.heap m) (N : News h₀ L s.heap news) (XB : K.In base) (TB : Top p loose mean mg mb base) (D : KtsDicts (outer.filterMap (·.frame)) h₀) (hA : A.frames = some (env :: outer)) (hf : env.frame = some L) (hke : env.scope.kind = .function) :
    Fr h₀ L (hideAll s.heap (news.map (·.1))) m ∧ Below A base (env :: outer) (hideAll s.heap (news.map (·.1))) ∧ h₀.StaysIn (hideAll s.heap (news.map (·.1))) ∧ KtsDicts ((env :: outer).filterMap (·.frame)) (hideAll s.heap (news.map (·.1))) ∧
      ∀ (g' : Heap) (L' : Addr) (m' : Str → Option Value) (news' : List (Addr × Obj)) (h' : Heap), KtsTurn ((env :: outer).filterMap (·.frame)) (hideAll s.heap (news.map (·.1))) g' → Fr g' L' h' m' → News g' L' h' news' →
        ∃ h₀', KtsTurn (outer.filterMap (·.frame)) h₀ h₀' ∧ Fr h₀' L h' m ∧ News h₀' L h' news' ∧ Below A₀ base outer h₀' ∧ K.In h₀' ∧ Top p loose mean mg mb h₀' ∧ KtsDicts (outer.filterMap (·.frame)) h₀' := by
  obtain ⟨FG, BG, st, _⟩ := groundX (R := fun _ _ => True) B F N hA hf hke
  obtain ⟨oL, es, ep, hLg, hLd, hLk, hLf⟩ := FG.ns
  have nL₀ : h₀.get? L = none := kts_self F
  refine ⟨FG, BG, st, fun b hb => ?_, fun g' L' m' news' h' T' F' N' => ?_⟩
  · rcases frame_mem hf hb with rfl | hb
    · exact ⟨oL, es, ep, hLg, hLd⟩
    · obtain ⟨o, es', n', ho', hd'⟩ := D b hb
      exact ⟨o, es', n', st b o ho', hd'⟩
  · obtain ⟨sl, hs⟩ := T'.up hLg
    obtain ⟨T₁, S₁⟩ := kts_turn_at (h := h') (fs := outer.filterMap (·.frame)) (g := h₀)
      (fun b hb => by
        obtain ⟨_, o, ho', _⟩ := B.frames.mem hb
        exact ⟨o, ho'⟩)
      (fun b o e nmem => F'.keep b o (T'.other b o (st b o e) (fun q => by
        rcases frame_mem hf q with z | z
        · rw [z, nL₀] at e
          cases e
        · exact nmem z)))
      (fun b o e hm => by
        obtain ⟨sl', hs'⟩ := T'.up (st b o e)
        exact ⟨sl', F'.keep _ _ hs'⟩)
    have B₃ : Below A₀ base outer (ktsHeap h' (outer.filterMap (·.frame)) h₀) := ⟨B.stack, fun b o e => T₁.other b o (B.stays b o e) (fun hm => by
      rw [(B.frames.mem hm).1] at e
      cases e), B.frames.of_keeps fun b o e _ => by
      obtain ⟨sl', hs'⟩ := T₁.up e
      exact ⟨_, hs', rfl⟩⟩
    refine ⟨_, T₁, ⟨⟨_, es, ep, F'.keep _ _ hs, hLd, hLk, hLf⟩, S₁, by rw [T₁.size]; exact F.above⟩, fun q hq => ⟨(N' q hq).1, fun z => ?_, ?_⟩, B₃, XB.keeps B₃.stays, TB.keeps B₃.stays, D.turn T₁⟩
    · have := (N' q hq).2.2; rw [z, hs] at this; cases this
    · refine T₁.none_ _ ?_
      cases e : h₀.get? q.1 with
      | none => rfl
      | some o =>
        obtain ⟨sl', hs'⟩ := T'.up (st _ _ e)
        have := (N' q hq).2.2
        rw [hs'] at this
        cases this
/-- how a call that may have caught an exception leaves -/
theorem leaveSX {R : Result → Shared → Prop} {v : Value} {s' : Shared} (B : Below A₀ base outer h₀) (F : Fr h₀ L s.heap m) (N : News h₀ L s.heap news) (XB : K.In base) (TB : Top p loose mean mg mb base) (D : KtsDicts (outer.filterMap (·.frame)) h₀) (hA : A.frames = some (env :: outer)) (hf : env.frame = some L) (hke : env.scope.kind = .function)
    (hl : LeaveS ((env :: outer).filterMap (·.frame)) A₀ base outer K p loose mean mg mb h₀ h₀ L m (hideAll s.heap (news.map (·.1))) R v s') : R (.ok (.ret v)) s' := by
  obtain ⟨FG, BG, st, DG, back⟩ := groundS B F N XB TB D hA hf hke
  rcases hl with ⟨L', m', news', F', N', k⟩ | ⟨g', L', m', news', T', F', N', k⟩
  · obtain ⟨_, _, _, lv⟩ := groundX (R := R) B F N hA hf hke
    exact lv v s' ⟨L', m', news', F', N', k⟩
  · obtain ⟨h₀', T₁, F₁, N₁, B₁, X₁, P₁, D₁⟩ := back g' L' m' news' s'.heap T' F' N'
    exact k h₀' T₁ F₁ N₁ B₁ X₁ P₁ D₁
end
section
variable {prog : Program} {w : World} {A₀ A : Around} {s : Shared} {base h₀ : Heap} {outer : List Env} {L : Addr} {m : Str → Option Value} {env : Env} {news : List (Addr × Obj)} {K : Frag} {p : Program} {loose : List Str} {mean : ExcName → Option Value} {mg mb : Str → Option Value}
  {R : Result → Shared → Prop} {name qual : Str} {params : Arguments} {body : List Stmt} {scope : Scope} {dV kV doc pm cdv ct oc : Value} {an od : Option Addr} {osl : Array (Option Value)} {f : Addr} {args : Args} {binds : List (Str × Value)}
theorem code_defSX (B : Below A₀ base outer h₀) (F : Fr h₀ L s.heap m) (X₀ : K.In h₀) (N : News h₀ L s.heap news) (T : Top p loose mean mg mb h₀) (XB : K.In base) (TB : Top p loose mean mg mb base) (D : KtsDicts (outer.filterMap (·.frame)) h₀) (hA : A.frames = some (env :: outer)) (hf : env.frame = some L)
    (ho : K.lookup f = some ⟨oc, od, .func (fnOf name qual params body scope dV kV doc pm an cdv ct), osl⟩) (hcd : codeIn K cdv qual = true) (hroom : A.depth < recursionLimit)
    (hbind : BindsTo s (fnOf name qual params body scope dV kV doc pm an cdv ct) args binds) (hloc : ∀ y ∈ binds, scope.names.lookup y.1 = some .local)
    (h : ∀ g L' h₁, Fr h₀ L g m → Fr g L' h₁ (fun y => binds.reverse.lookup y) → News g L' h₁ news → Below A base (env :: outer) g → K.In g → Top p loose mean mg mb g → KtsDicts ((env :: outer).filterMap (·.frame)) g →
      wpAny (model prog w) (A.deeper (envOf qual scope L' f cdv)) (execs body (envOf qual scope L' f cdv))
        (fun fl s' => LeaveS ((env :: outer).filterMap (·.frame)) A₀ base outer K p loose mean mg mb h₀ h₀ L m g R (match fl with | .ret v => v | _ => .none) s')
        (fun e s' => wpAny (model prog w) (A.deeper (envOf qual scope L' f cdv)) (leaving (envOf qual scope L' f cdv) e) (fun _ s'' => R (.error e) s'') (fun e' s'' => R (.error e') s'') s')
        { s with heap := h₁, toks := s.toks + binds.length })
    (hke : env.scope.kind = .function) (hco : scope.isCoroutine = false) (hgen : scope.isGenerator = false) (hk : scope.kind = .function)
    (hcell : ∀ x ∈ scope.names, x.2 ≠ .cell) : codeAny (model prog w) A (.call (.ref f) args) R s := by
  have X := X₀.keeps F.keep
  obtain ⟨FG, BG, st, DG, _⟩ := groundS B F N XB TB D hA hf hke
  refine codeAny_call_def (fd := fnOf name qual params body scope dV kV doc pm an cdv ct) (body := body) (binds := binds) hroom (X _ _ ho) rfl (T.nolimit.keeps F.keep) (codeRec_of X hcd) rfl hbind hcell hloc (fun h₁ hns hk₁ => ?_) hco hgen hk
  exact wpAny_mono (h _ s.heap.objs.size h₁ FG ⟨hns, fun b o e => hk₁ b o (of_hideAll _ e), Nat.le_of_eq (hideAll_size _ _)⟩
    (fun q hq => ⟨hk₁ _ _ (N q hq).1, Nat.ne_of_lt (Heap.lt_size (N q hq).1), hideAll_none _ (List.mem_map_of_mem hq)⟩) BG (X₀.keeps st) (T.keeps st) DG) (fun fl s' hl => leaveSX B F N XB TB D hA hf hke hl) fun _ _ y => y
theorem code_cellSX (B : Below A₀ base outer h₀) (F : Fr h₀ L s.heap m) (X₀ : K.In h₀) (N : News h₀ L s.heap news) (T : Top p loose mean mg mb h₀) (XB : K.In base) (TB : Top p loose mean mg mb base) (D : KtsDicts (outer.filterMap (·.frame)) h₀) (hA : A.frames = some (env :: outer)) (hf : env.frame = some L)
    (ho : K.lookup f = some ⟨oc, od, .func (fnOf name qual params body scope dV kV doc pm an cdv ct), osl⟩) (hcd : codeIn K cdv qual = true) (hroom : A.depth < recursionLimit)
    (hbind : BindsTo s (fnOf name qual params body scope dV kV doc pm an cdv ct) args binds)
    (hkind : ∀ n, ∀ x ∈ binds, scope.names.lookup x.1 = some .local ∨ (scope.names.lookup x.1 = some .cell ∧ ((cellsFrom n scope.names []).lookup x.1).isSome = true))
    (hnd : ((cellsFrom 0 scope.names []).map (·.1)).Nodup)
    (h : ∀ g L' h₁ tk cells, Fr h₀ L g m → Fr g L' h₁ (bindL (envOfC qual scope L' f cdv).kindOf binds fun _ => none) → News g L' h₁ (cells ++ news) →
      CellsAre (bindC (envOfC qual scope L' f cdv).kindOf binds fun _ => none) (cellsFrom (L' + 1) scope.names []) cells → Below A base (env :: outer) g → K.In g → Top p loose mean mg mb g → KtsDicts ((env :: outer).filterMap (·.frame)) g → (∀ q ∈ news, q.1 < L') →
      wpAny (model prog w) (A.deeper (envOfC qual scope L' f cdv)) (execs body (envOfC qual scope L' f cdv))
        (fun fl s' => LeaveS ((env :: outer).filterMap (·.frame)) A₀ base outer K p loose mean mg mb h₀ h₀ L m g R (match fl with | .ret v => v | _ => .none) s')
        (fun e s' => wpAny (model prog w) (A.deeper (envOfC qual scope L' f cdv)) (leaving (envOfC qual scope L' f cdv) e) (fun _ s'' => R (.error e) s'') (fun e' s'' => R (.error e') s'') s')
        { s with heap := h₁, toks := tk })
    (hke : env.scope.kind = .function) (hco : scope.isCoroutine = false) (hgen : scope.isGenerator = false) (hk : scope.kind = .function) : codeAny (model prog w) A (.call (.ref f) args) R s := by
  have X := X₀.keeps F.keep
  obtain ⟨FG, BG, st, DG, _⟩ := groundS B F N XB TB D hA hf hke
  refine codeAny_call_function hroom (X _ _ ho) rfl hco hgen rfl (codeRec_of X hcd) (hbind _ _ _ _ ?_)
  refine wpAny_newFunctionEnv_cells hk (hkind _) fun env' he s' x => ?_
  subst he
  refine ⟨(T.nolimit.keeps F.keep).keeps x.toInCall.keep, codeAny_func ?_⟩
  obtain ⟨h₁, tk, rfl, _⟩ := x.done
  have hk₁ := x.toInCall.keep
  obtain ⟨cells, NC, Y⟩ := Cl.news (h₀ := s.heap) (Nat.le_refl _) fun n c hm => ⟨x.cell n c (lookup_of_mem_nodup (cellsFrom_names scope.names 0 (s.heap.objs.size + 1) [] [] rfl ▸ hnd) hm), x.above n c hm⟩
  refine wpAny_mono (h _ s.heap.objs.size h₁ tk cells FG ⟨x.toInCall.ns, fun b o e => hk₁ b o (of_hideAll _ e), Nat.le_of_eq (hideAll_size _ _)⟩ (fun q hq => ?_) Y BG (X₀.keeps st) (T.keeps st) DG (fun q hq => Heap.lt_size (N q hq).1)) (fun fl s' hl => leaveSX B F N XB TB D hA hf hke hl) fun _ _ y => y
  rcases List.mem_append.mp hq with hq | hq
  · refine ⟨(NC q hq).1, (NC q hq).2.1, ?_⟩
    cases e : (hideAll s.heap (news.map (·.1))).get? q.1 with
    | none => rfl
    | some o => have := of_hideAll _ e; rw [(NC q hq).2.2] at this; cases this
  · exact ⟨hk₁ _ _ (N q hq).1, Nat.ne_of_lt (Heap.lt_size (N q hq).1), hideAll_none _ (List.mem_map_of_mem hq)⟩
end
end Mine
end
section
open PySem PySem.W PyProof.Rows PySem.Calls Builtin Builtin.ObjectAttr
set_option Elab.async false
set_option maxRecDepth 100000
set_option maxHeartbeats 8000000
namespace Mine
section
variable {prog : Program} {w : World} {A : Around} {E : Value → Shared → Prop} {s : Shared} {K : Frag} {x C f : Addr} {ox : Obj} {od : Option Obj} {name : Str} {expr : Bool}
/-- an attribute that the instance and its class lack, and the class has a hook -/
theorem get_hook {Q : Value → Shared → Prop} (X : K.In s.heap) (I : InstAt s.heap x ox C od) (hga : findIn K (.ref C) "__getattribute__" = some (some (.builtin "object.__getattribute__")))
    (hf : findObj K C od name = some .missing) (hk : findIn K (.ref C) "__getattr__" = some (some (.ref f))) (hfn : typeIn K (.ref f) = some (.type "function"))
    (h : wpAny (model prog w) A.in1 (call (.ref f) [.ref x, .str name s.toks]) (fun v s' => handedIn v = true ∧ Q v s') (fun _ _ => False) { s with toks := s.toks + 1 }) :
    wpAny (model prog w) A (getAttr (.ref x) name expr) Q E s := by
  refine get_open X I hga ?_
  obtain ⟨hh', g, d, t, os⟩ := s
  have L0 := I.type (M := model prog w)
  have L1 := looks_find (M := model prog w) X I hf
  have L2 := looks_findIn (M := model prog w) X hk
  have L3 := bind_fn (M := model prog w) X (.ref x) hfn
  refine wpAny_bind (wpAny_pure (wpAny_bind (L0.at (wpAny_bind (L1.at (wpAny_bind (L2.at ?_)))))))
  show wpAny _ _ (byHook _ _ _) _ _ _
  unfold byHook
  refine wpAny_bind (L3.at ?_)
  refine wpAny_bind (wpAny_mono h (fun v s' z => wpAny_bind (wpAny_rule (wpAny_pure ?_))) fun _ _ z => False.elim z)
  show wpAny _ _ (handedOut v) _ _ _
  rw [handedOut_of z.1]
  exact wpAny_pure z.2
theorem meth_hook {pl : Sem Bool} {Q : Value × List Value → Shared → Prop} (X : K.In s.heap) (I : InstAt s.heap x ox C od) (hga : findIn K (.ref C) "__getattribute__" = some (some (.builtin "object.__getattribute__")))
    (hf : findObj K C od name = some .missing) (hk : findIn K (.ref C) "__getattr__" = some (some (.ref f))) (hfn : typeIn K (.ref f) = some (.type "function"))
    (h : wpAny (model prog w) A.in1 (call (.ref f) [.ref x, .str name s.toks]) (fun v s' => handedIn v = true ∧ Q (v, []) s') (fun _ _ => False) { s with toks := s.toks + 1 }) :
    wpAny (model prog w) A (getMethod (.ref x) name pl) Q E s := by
  have L0 := I.type (M := model prog w)
  have L1 := looks_findIn (M := model prog w) X hga
  have L2 := looks_findIn (M := model prog w) X hk
  unfold getMethod specialOf
  refine wpAny_bind (wpAny_bind (L0.at (L1.at ?_)))
  dsimp only
  have hc := PySem.F.canon_object_ga
  rw [hc, if_neg Bool.false_ne_true]
  refine wpAny_bind (wpAny_bind (L0.at (L2.at ?_)))
  rw [if_pos (show (some (Value.ref f)).isSome = true from rfl)]
  exact wpAny_bind (get_hook X I hga hf hk hfn (wpAny_mono h (fun v s' z => ⟨z.1, wpAny_pure z.2⟩) fun _ _ z => z))
end
end Mine
end
section
open PySem PySem.W PyProof.Rows PySem.Calls
set_option Elab.async false
set_option maxRecDepth 100000
set_option maxHeartbeats 8000000
namespace Mine
/-- the call comes out with a value (`V`: ledger, value, ledger behind) or with an exception (`Y`: ledger, kind, ledger behind) -/
def Comes (w : World) (D : Nat) (Pre : Led → Prop) (V : Led → Value → Led → Prop) (Y : Led → XK → Led → Prop) (f : Value) (args : List Value) : Prop :=
  ∀ (dp un : Nat) (gd : Option (List Code)) (cn : Str) (cs : Scope) (a : Addr) (ccd : Value) (cl : List (Str × Addr)) (outer : List Env) (A₀ : Around) (base h₀ : Heap) (L : Addr) (m : Str → Option Value) (s : Shared) (Q E : Value → Shared → Prop)
    (p : Program) (loose : List Str) (mean : ExcName → Option Value) (mg mb : Str → Option Value) (nw' : Led),
    Below A₀ base outer h₀ → Fr h₀ L s.heap m → (topH.heap_1 w.params).In h₀ → News h₀ L s.heap nw' → Top p loose mean mg mb h₀ → cs.kind = .function → dp + D ≤ 390 → un + 8 * D ≤ 400 → Pre nw' →
    (∀ G e P ex k nx h' tk', Y nw' k nx → XIs w k P ex → Fr h₀ L G m → RaisedP base G (envX cn cs L a ccd cl :: outer) e P (ex ++ nx) h' → G.UpToSlots h' → E (.ref e) { s with heap := h', toks := tk' }) →
    (∀ h' tk' v nx, V nw' v nx → Fr h₀ L h' m → News h₀ L h' nx → Q v { s with heap := h', toks := tk' }) →
    wpAny (model PySem.Challenge.rw_kn0109_04.row.prog w) (ktrTop dp un gd cn cs L a ccd cl outer) (call f args) Q E s
noncomputable abbrev s4 (w : World) := PySem.strKind PySem.Challenge.rw_kn0109_04.row.prog w
/-- what `_law_taken` gives -/
inductive Took (w : World) (V : Led → Value → Led → Prop) (Y : Led → XK → Led → Prop) (nw : Led) : Value → Led → Prop
  | val (v : Value) (l : Addr) (nx : Led) (h : V nw v nx) (fr : ∀ q ∈ nx, q.1 < l) : Took w V Y nw (.ref l) ((l, listOf #[v] 0) :: nx)
  | fault (c s : Value) (d : Addr) (o : Obj) (nx gb : Led) (h : Y nw (.fault c s) nx) (hd : (d == sysModules) = false) (ho : Obj.IsDictOf (s4 w) o [("faultCode", c), ("faultString", s)]) (fr : ∀ q ∈ gb ++ nx, q.1 < d) : Took w V Y nw (.ref d) ((d, o) :: (gb ++ nx))
  | index (t : Tok) (nx gb : Led) (h : Y nw .index nx) : Took w V Y nw (.str "end" t) (gb ++ nx)
  | value (t : Addr) (tk : Tok) (nx gb : Led) (h : Y nw .value nx) (ht : (t, tupOf #[.str unexpected tk]) ∈ gb) : Took w V Y nw (.ref t) (gb ++ nx)
/-- `_law_taken(ask)`, in whatever frame; the frames beneath may have turned -/
def Taken (w : World) (D : Nat) (Pre : Led → Prop) (R : Led → Value → Led → Prop) (f : Value) (args : List Value) : Prop :=
  ∀ (dp un : Nat) (gd : Option (List Code)) (cn : Str) (cs : Scope) (a : Addr) (ccd : Value) (cl : List (Str × Addr)) (outer : List Env) (A₀ : Around) (base h₀ : Heap) (L : Addr) (m : Str → Option Value) (s : Shared) (Q E : Value → Shared → Prop)
    (p : Program) (loose : List Str) (mean : ExcName → Option Value) (mg mb : Str → Option Value) (nw' : Led),
    Below A₀ base outer h₀ → Fr h₀ L s.heap m → (topH.heap_1 w.params).In h₀ → News h₀ L s.heap nw' → Top p loose mean mg mb h₀ → (topH.heap_1 w.params).In base → Top p loose mean mg mb base → KtsDicts (outer.filterMap (·.frame)) h₀ → cs.kind = .function → dp + D ≤ 390 → un + 8 * D ≤ 400 → Pre nw' →
    (∀ h₁ h' tk' v nx, R nw' v nx → KtsTurn (outer.filterMap (·.frame)) h₀ h₁ → Below A₀ base outer h₁ → Fr h₁ L h' m → (topH.heap_1 w.params).In h₁ → News h₁ L h' nx → Top p loose mean mg mb h₁ → KtsDicts (outer.filterMap (·.frame)) h₁ → Q v { s with heap := h', toks := tk' }) →
    wpAny (model PySem.Challenge.rw_kn0109_04.row.prog w) (ktrTop dp un gd cn cs L a ccd cl outer) (call f args) Q E s
theorem fr3 {d a b c : Addr} {oa ob oc : Obj} {nx : Led} (h : @LT.lt Nat _ a d ∧ @LT.lt Nat _ b d ∧ @LT.lt Nat _ c d ∧ AllLt d nx) : ∀ q ∈ [(a, oa), (b, ob), (c, oc)] ++ nx, q.1 < d := ktn_ltOf (l := (a, oa) :: (b, ob) :: (c, oc) :: nx) h
theorem exc_codeN {w : World} {A : Around} {E : Value → Shared → Prop} {h₀ h : Heap} {L : Addr} {m : Str → Option Value} {gg dd tk os} {news : Led} {e dx t : Addr} {tb c v : Value} {t1 t2 : Nat} {envs : List Env} {Q : Value → Shared → Prop} (F : Fr h₀ L h m) (X : (topH.heap_1 w.params).In h₀) (N : News h₀ L h news) (h1 : (e, excObj (.ref 51) (some dx) t tb) ∈ news) (h2 : (dx, faultDict w t1 t2 c v) ∈ news)
    (hf : A.frames = some envs) (d1 : A.depth ≤ 400) (d2 : A.units ≤ 400) (hc : handedIn c = true) (q : Q c ⟨h, gg, dd, tk + 1, os⟩) : wpAny (model PySem.Challenge.rw_kn0109_04.row.prog w) A (getAttr (.ref e) "faultCode" true) Q E ⟨h, gg, dd, tk, os⟩ :=
  exc_code w ⟨h, gg, dd, tk, os⟩ (X.keeps F.keep) envs hf Q E (N _ h1).1 (N _ h2).1 d1 d2 hc q
theorem exc_stringN {w : World} {A : Around} {E : Value → Shared → Prop} {h₀ h : Heap} {L : Addr} {m : Str → Option Value} {gg dd tk os} {news : Led} {e dx t : Addr} {tb c v : Value} {t1 t2 : Nat} {envs : List Env} {Q : Value → Shared → Prop} (F : Fr h₀ L h m) (X : (topH.heap_1 w.params).In h₀) (N : News h₀ L h news) (h1 : (e, excObj (.ref 51) (some dx) t tb) ∈ news) (h2 : (dx, faultDict w t1 t2 c v) ∈ news)
    (hf : A.frames = some envs) (d1 : A.depth ≤ 400) (d2 : A.units ≤ 400) (hc : handedIn v = true) (q : Q v ⟨h, gg, dd, tk + 1, os⟩) : wpAny (model PySem.Challenge.rw_kn0109_04.row.prog w) A (getAttr (.ref e) "faultString" true) Q E ⟨h, gg, dd, tk, os⟩ :=
  exc_string w ⟨h, gg, dd, tk, os⟩ (X.keeps F.keep) envs hf Q E (N _ h1).1 (N _ h2).1 d1 d2 hc q
theorem exc_argsN {prog : Program} {w : World} {A : Around} {E : Value → Shared → Prop} {h₀ h : Heap} {L : Addr} {g d tk os} {news : Led} {e t : Addr} {dx : Option Addr} {tb : Value} {vs : Array Value} {expr : Bool} {Q : Value → Shared → Prop}
    (N : News h₀ L h news) (h1 : (e, excObj (.type "ValueError") dx t tb) ∈ news) (h2 : (t, tupOf vs) ∈ news) (hq : Q (.ref t) ⟨h, g, d, tk + 1, os⟩) :
    wpAny (model prog w) A (getAttr (.ref e) "args" expr) Q E ⟨h, g, d, tk, os⟩ := by
  obtain ⟨l⟩ := vs
  exact args_got_builtin (vs := l) PySem.F.attr_ValueError N ⟨_, _, _, _, h1, h2, rfl, rfl, rfl, rfl, rfl⟩ hq
theorem taken {w : World} {D : Nat} {Pre : Led → Prop} {V : Led → Value → Led → Prop} {Y : Led → XK → Led → Prop} {ask : Addr} (hD : D ≤ 30) (hfn : ∀ nw, Pre nw → ∃ oc od fd sl, (ask, (⟨oc, od, .func fd, sl⟩ : Obj)) ∈ nw) (hYh : ∀ nw c v nx, Y nw (.fault c v) nx → handedIn c = true ∧ handedIn v = true) (hC : Comes w D Pre V Y (.ref ask) []) : Taken w 40 Pre (Took w V Y) (.ref 179) [.ref ask] := by
  unfold Taken
  w_top off
  k_fill
  intro dp un gd cn cs a ccd cl outer A₀ base h₀ L m s Q E p loose mean mg mb nw' B F X N T XB TB DD hk hd hu hP post
  obtain ⟨oc, od, fd, sl, hask⟩ := hfn _ hP
  have hFn : FnAt ask s.heap := FnAt.of N hask
  refine wpAny_call ?_
  k_dflt (refine' code_defSX ?k1 ?k2 ?k3 ?k4 ?k5 ?kXB ?kTB ?kD ?kA ?kF ?k6 ?k7 ?k8 ?k9 ?kB ?_ ?cK ?c2 ?c3 ?c4 ?c5; (case kA => exact rfl); (case kF => exact rfl); (case k2 => exact F); (case k1 => exact B); (case k3 => exact X); (case k4 => exact N); (case k5 => exact T); (case kXB => exact XB); (case kTB => exact TB); (case kD => exact DD); (case k6 => k_is); (case k7 => k_is); (case k8 => k_room); (case k9 => exact BindsTo.of_eq rfl); (case kB => exact locs rfl); (case cK => exact hk); (case c2 => exact rfl); (case c3 => exact rfl); (case c4 => exact rfl); (case c5 => decide); k_whole; intro g' L' h' FG' F' N' B' X' T' D'; (try dsimp only); (try k_fold))
  (repeat' (first
    | (k_unfold; (try dsimp only)) | (k_end; wrow_close)
    | (with_reducible (k_here; k_dflt (first | ((with_reducible show wpAny _ _ (getAttr (Value.ref _) ("faultCode" : Str) _) _ _ _); refine' exc_codeN ?F ?X ?N ?he ?hd ?hf ?h1 ?h2 ?hc ?_; (case hf => exact rfl); (case F => k_asm); (case X => k_asm); (case N => k_asm); (case he => (repeat (first | with_reducible assumption | with_reducible exact List.mem_cons_self .. | with_reducible refine List.mem_cons_of_mem _ ?_))); (case hd => (repeat (first | with_reducible assumption | with_reducible exact List.mem_cons_self .. | with_reducible refine List.mem_cons_of_mem _ ?_))); (case h1 => ((try simp only [depth_mark, depth_under_make, depth_under_kw, depth_in1, depth_deeper]); (try dsimp only [ktrTop]); omega)); (case h2 => ((try dsimp only [ktrTop, Around.in1, Around.deeper, Around.mark]); omega)); (case hc => assumption); k_whole) | ((with_reducible show wpAny _ _ (getAttr (Value.ref _) ("faultString" : Str) _) _ _ _); refine' exc_stringN ?F ?X ?N ?he ?hd ?hf ?h1 ?h2 ?hc ?_; (case hf => exact rfl); (case F => k_asm); (case X => k_asm); (case N => k_asm); (case he => (repeat (first | with_reducible assumption | with_reducible exact List.mem_cons_self .. | with_reducible refine List.mem_cons_of_mem _ ?_))); (case hd => (repeat (first | with_reducible assumption | with_reducible exact List.mem_cons_self .. | with_reducible refine List.mem_cons_of_mem _ ?_))); (case h1 => ((try simp only [depth_mark, depth_under_make, depth_under_kw, depth_in1, depth_deeper]); (try dsimp only [ktrTop]); omega)); (case h2 => ((try dsimp only [ktrTop, Around.in1, Around.deeper, Around.mark]); omega)); (case hc => assumption); k_whole) | ((with_reducible show wpAny _ _ (getAttr (Value.ref _) ("args" : Str) _) _ _ _); refine' exc_argsN ?N ?he ?hd ?_; (case N => k_asm); (case he => (repeat (first | with_reducible assumption | with_reducible exact List.mem_cons_self .. | with_reducible refine List.mem_cons_of_mem _ ?_))); (case hd => (repeat (first | with_reducible assumption | with_reducible exact List.mem_cons_self .. | with_reducible refine List.mem_cons_of_mem _ ?_))); k_whole))))
    | ((with_reducible show wpAny _ _ (callWith _ (Value.ref _) _ _ _) _ _ _); with_reducible (k_here; (try dsimp only); k_dflt (refine' callWith_F0 ?k1 ?_; (case k1 => refine' FnAt.of ?n0 ?n1; (case n0 => k_asm); (case n1 => assumption)); k_whole; (try dsimp only [List.nil_append, List.cons_append]))))
    | (with_reducible (k_here; (with_reducible show wpAny _ _ (call (Value.ref _) [] _) _ _ _); (with_reducible rename Comes _ _ _ _ _ _ _ => hC); k_dflt (refine' hC _ _ _ _ _ _ _ _ _ _ _ _ _ _ _ _ _ _ _ _ _ _ _ ?B ?F ?X ?N ?T ?hk ?hd ?hu ?hP ?_ ?_; (case B => k_asm); (case F => k_asm); (case X => k_asm); (case N => k_asm); (case T => k_asm); (case hk => exact rfl); (case hd => ((try dsimp only [ktrTop, Around.in1, Around.deeper]); omega)); (case hu => ((try dsimp only [ktrTop, Around.in1, Around.deeper]); omega)); (case hP => assumption)); (try clear hC)))
    | walk1 | (dsimp only; walk1) | (leave1; (try dsimp only))))
  · rename XIs _ _ _ _ => hx
    rename Y _ _ _ => hy
    refine' land_start (XIs.still hx) (by assumption) (by assumption) (by assumption) ?_
    intro h₁ R₁ U₁
    cases hx with
    | index =>
      k_dflt (refine' clause_no R₁ ?kF ?kK U₁ XB TB (cls := .type "IndexError") (fun o h => h) (fun g₅ F₅ X₅ P₅ Q5 E5 q => by k_dflt (refine' name_K F₅ X₅ P₅ ?e q; (case e => k_is))) ?kx ?_; (case kF => assumption); (case kK => assumption); (case kx => kernel_rfl))
      k_dflt (refine' clause_plain (cls := .type "IndexError") R₁ ?kF ?kK U₁ XB TB ?kD KtsTurn.refl ?kc (fun g₅ F₅ X₅ P₅ Q5 E5 q => by k_dflt (refine' name_B F₅ X₅ P₅ ?e PyProof.Rows.Boot.«IndexError» (by decide) q; (case e => k_is))) ?kx ?_ ; (case kF => assumption); (case kK => assumption); (case kD => assumption); (case kc => exact fun o h => h); (case kx => kernel_rfl))
      intro h₂ g₂ oe hp fr T₂ F₂ N₂ B₂ X₂ T₂' D₂
      (repeat' (first
        | (k_unfold; (try dsimp only)) | (k_end; wrow_close)
        | (with_reducible (k_here; k_dflt (first | ((with_reducible show wpAny _ _ (getAttr (Value.ref _) ("faultCode" : Str) _) _ _ _); refine' exc_codeN ?F ?X ?N ?he ?hd ?hf ?h1 ?h2 ?hc ?_; (case hf => exact rfl); (case F => k_asm); (case X => k_asm); (case N => k_asm); (case he => (repeat (first | with_reducible assumption | with_reducible exact List.mem_cons_self .. | with_reducible refine List.mem_cons_of_mem _ ?_))); (case hd => (repeat (first | with_reducible assumption | with_reducible exact List.mem_cons_self .. | with_reducible refine List.mem_cons_of_mem _ ?_))); (case h1 => ((try simp only [depth_mark, depth_under_make, depth_under_kw, depth_in1, depth_deeper]); (try dsimp only [ktrTop]); omega)); (case h2 => ((try dsimp only [ktrTop, Around.in1, Around.deeper, Around.mark]); omega)); (case hc => assumption); k_whole) | ((with_reducible show wpAny _ _ (getAttr (Value.ref _) ("faultString" : Str) _) _ _ _); refine' exc_stringN ?F ?X ?N ?he ?hd ?hf ?h1 ?h2 ?hc ?_; (case hf => exact rfl); (case F => k_asm); (case X => k_asm); (case N => k_asm); (case he => (repeat (first | with_reducible assumption | with_reducible exact List.mem_cons_self .. | with_reducible refine List.mem_cons_of_mem _ ?_))); (case hd => (repeat (first | with_reducible assumption | with_reducible exact List.mem_cons_self .. | with_reducible refine List.mem_cons_of_mem _ ?_))); (case h1 => ((try simp only [depth_mark, depth_under_make, depth_under_kw, depth_in1, depth_deeper]); (try dsimp only [ktrTop]); omega)); (case h2 => ((try dsimp only [ktrTop, Around.in1, Around.deeper, Around.mark]); omega)); (case hc => assumption); k_whole) | ((with_reducible show wpAny _ _ (getAttr (Value.ref _) ("args" : Str) _) _ _ _); refine' exc_argsN ?N ?he ?hd ?_; (case N => k_asm); (case he => (repeat (first | with_reducible assumption | with_reducible exact List.mem_cons_self .. | with_reducible refine List.mem_cons_of_mem _ ?_))); (case hd => (repeat (first | with_reducible assumption | with_reducible exact List.mem_cons_self .. | with_reducible refine List.mem_cons_of_mem _ ?_))); k_whole))))
        | ((with_reducible show wpAny _ _ (callWith _ (Value.ref _) _ _ _) _ _ _); with_reducible (k_here; (try dsimp only); k_dflt (refine' callWith_F0 ?k1 ?_; (case k1 => refine' FnAt.of ?n0 ?n1; (case n0 => k_asm); (case n1 => assumption)); k_whole; (try dsimp only [List.nil_append, List.cons_append]))))
        | (with_reducible (k_here; (with_reducible show wpAny _ _ (call (Value.ref _) [] _) _ _ _); (with_reducible rename Comes _ _ _ _ _ _ _ => hC); k_dflt (refine' hC _ _ _ _ _ _ _ _ _ _ _ _ _ _ _ _ _ _ _ _ _ _ _ ?B ?F ?X ?N ?T ?hk ?hd ?hu ?hP ?_ ?_; (case B => k_asm); (case F => k_asm); (case X => k_asm); (case N => k_asm); (case T => k_asm); (case hk => exact rfl); (case hd => ((try dsimp only [ktrTop, Around.in1, Around.deeper]); omega)); (case hu => ((try dsimp only [ktrTop, Around.in1, Around.deeper]); omega)); (case hP => assumption)); (try clear hC)))
        | walk1 | (dsimp only; walk1) | (leave1; (try dsimp only))))
      all_goals exact post _ _ _ _ _ (.index _ _ [_] hy) (by assumption) (by assumption) (by assumption) (by assumption) (by assumption) (by assumption) (by assumption)
    | value t tk =>
      k_dflt (refine' clause_no R₁ ?kF ?kK U₁ XB TB (cls := .type "ValueError") (by rintro o ⟨tb, rfl⟩; rfl) (fun g₅ F₅ X₅ P₅ Q5 E5 q => by k_dflt (refine' name_K F₅ X₅ P₅ ?e q; (case e => k_is))) ?kx ?_; (case kF => assumption); (case kK => assumption); (case kx => kernel_rfl))
      k_dflt (refine' clause_no R₁ ?kF ?kK U₁ XB TB (cls := .type "ValueError") (by rintro o ⟨tb, rfl⟩; rfl) (fun g₅ F₅ X₅ P₅ Q5 E5 q => by k_dflt (refine' name_B F₅ X₅ P₅ ?e PyProof.Rows.Boot.«IndexError» (by decide) q; (case e => k_is))) ?kx ?_; (case kF => assumption); (case kK => assumption); (case kx => kernel_rfl))
      k_dflt (refine' clause_as (cls := .type "ValueError") R₁ ?kF ?kK U₁ XB TB ?kD KtsTurn.refl ?kc (fun g₅ F₅ X₅ P₅ Q5 E5 q => by k_dflt (refine' name_B F₅ X₅ P₅ ?e PyProof.Rows.Boot.«ValueError» (by decide) q; (case e => k_is))) ?kx ?_ rfl rfl; (case kF => assumption); (case kK => assumption); (case kD => assumption); (case kc => (rintro o ⟨tb, rfl⟩; rfl)); (case kx => kernel_rfl))
      intro h₂ g₂ oe tk hp fr T₂ F₂ N₂ B₂ X₂ T₂' D₂
      obtain ⟨tb, rfl⟩ := hp
      simp only [List.cons_append, List.nil_append] at N₂
      (repeat' (first
        | (k_unfold; (try dsimp only)) | (k_end; wrow_close)
        | (with_reducible (k_here; k_dflt (first | ((with_reducible show wpAny _ _ (getAttr (Value.ref _) ("faultCode" : Str) _) _ _ _); refine' exc_codeN ?F ?X ?N ?he ?hd ?hf ?h1 ?h2 ?hc ?_; (case hf => exact rfl); (case F => k_asm); (case X => k_asm); (case N => k_asm); (case he => (repeat (first | with_reducible assumption | with_reducible exact List.mem_cons_self .. | with_reducible refine List.mem_cons_of_mem _ ?_))); (case hd => (repeat (first | with_reducible assumption | with_reducible exact List.mem_cons_self .. | with_reducible refine List.mem_cons_of_mem _ ?_))); (case h1 => ((try simp only [depth_mark, depth_under_make, depth_under_kw, depth_in1, depth_deeper]); (try dsimp only [ktrTop]); omega)); (case h2 => ((try dsimp only [ktrTop, Around.in1, Around.deeper, Around.mark]); omega)); (case hc => assumption); k_whole) | ((with_reducible show wpAny _ _ (getAttr (Value.ref _) ("faultString" : Str) _) _ _ _); refine' exc_stringN ?F ?X ?N ?he ?hd ?hf ?h1 ?h2 ?hc ?_; (case hf => exact rfl); (case F => k_asm); (case X => k_asm); (case N => k_asm); (case he => (repeat (first | with_reducible assumption | with_reducible exact List.mem_cons_self .. | with_reducible refine List.mem_cons_of_mem _ ?_))); (case hd => (repeat (first | with_reducible assumption | with_reducible exact List.mem_cons_self .. | with_reducible refine List.mem_cons_of_mem _ ?_))); (case h1 => ((try simp only [depth_mark, depth_under_make, depth_under_kw, depth_in1, depth_deeper]); (try dsimp only [ktrTop]); omega)); (case h2 => ((try dsimp only [ktrTop, Around.in1, Around.deeper, Around.mark]); omega)); (case hc => assumption); k_whole) | ((with_reducible show wpAny _ _ (getAttr (Value.ref _) ("args" : Str) _) _ _ _); refine' exc_argsN ?N ?he ?hd ?_; (case N => k_asm); (case he => (repeat (first | with_reducible assumption | with_reducible exact List.mem_cons_self .. | with_reducible refine List.mem_cons_of_mem _ ?_))); (case hd => (repeat (first | with_reducible assumption | with_reducible exact List.mem_cons_self .. | with_reducible refine List.mem_cons_of_mem _ ?_))); k_whole))))
        | ((with_reducible show wpAny _ _ (callWith _ (Value.ref _) _ _ _) _ _ _); with_reducible (k_here; (try dsimp only); k_dflt (refine' callWith_F0 ?k1 ?_; (case k1 => refine' FnAt.of ?n0 ?n1; (case n0 => k_asm); (case n1 => assumption)); k_whole; (try dsimp only [List.nil_append, List.cons_append]))))
        | (with_reducible (k_here; (with_reducible show wpAny _ _ (call (Value.ref _) [] _) _ _ _); (with_reducible rename Comes _ _ _ _ _ _ _ => hC); k_dflt (refine' hC _ _ _ _ _ _ _ _ _ _ _ _ _ _ _ _ _ _ _ _ _ _ _ ?B ?F ?X ?N ?T ?hk ?hd ?hu ?hP ?_ ?_; (case B => k_asm); (case F => k_asm); (case X => k_asm); (case N => k_asm); (case T => k_asm); (case hk => exact rfl); (case hd => ((try dsimp only [ktrTop, Around.in1, Around.deeper]); omega)); (case hu => ((try dsimp only [ktrTop, Around.in1, Around.deeper]); omega)); (case hP => assumption)); (try clear hC)))
        | walk1 | (dsimp only; walk1) | (leave1; (try dsimp only))))
      all_goals exact post _ _ _ _ _ (.value _ _ _ [_, _] hy (.tail _ (.head _))) (by assumption) (by assumption) (by assumption) (by assumption) (by assumption) (by assumption) (by assumption)
    | fault c v t dx t1 t2 =>
      obtain ⟨hc1, hc2⟩ := hYh _ _ _ _ hy
      k_dflt (refine' clause_as (cls := .ref 51) R₁ ?kF ?kK U₁ XB TB ?kD KtsTurn.refl ?kc (fun g₅ F₅ X₅ P₅ Q5 E5 q => by k_dflt (refine' name_K F₅ X₅ P₅ ?e q; (case e => k_is))) ?kx ?_ rfl rfl; (case kF => assumption); (case kK => assumption); (case kD => assumption); (case kc => (rintro o ⟨tb, rfl⟩; rfl)); (case kx => kernel_rfl))
      intro h₂ g₂ oe tk hp fr T₂ F₂ N₂ B₂ X₂ T₂' D₂
      obtain ⟨tb, rfl⟩ := hp
      simp only [List.cons_append, List.nil_append] at N₂
      (repeat' (first
        | (k_unfold; (try dsimp only)) | (k_end; wrow_close)
        | (with_reducible (k_here; k_dflt (first | ((with_reducible show wpAny _ _ (getAttr (Value.ref _) ("faultCode" : Str) _) _ _ _); refine' exc_codeN ?F ?X ?N ?he ?hd ?hf ?h1 ?h2 ?hc ?_; (case hf => exact rfl); (case F => k_asm); (case X => k_asm); (case N => k_asm); (case he => (repeat (first | with_reducible assumption | with_reducible exact List.mem_cons_self .. | with_reducible refine List.mem_cons_of_mem _ ?_))); (case hd => (repeat (first | with_reducible assumption | with_reducible exact List.mem_cons_self .. | with_reducible refine List.mem_cons_of_mem _ ?_))); (case h1 => ((try simp only [depth_mark, depth_under_make, depth_under_kw, depth_in1, depth_deeper]); (try dsimp only [ktrTop]); omega)); (case h2 => ((try dsimp only [ktrTop, Around.in1, Around.deeper, Around.mark]); omega)); (case hc => assumption); k_whole) | ((with_reducible show wpAny _ _ (getAttr (Value.ref _) ("faultString" : Str) _) _ _ _); refine' exc_stringN ?F ?X ?N ?he ?hd ?hf ?h1 ?h2 ?hc ?_; (case hf => exact rfl); (case F => k_asm); (case X => k_asm); (case N => k_asm); (case he => (repeat (first | with_reducible assumption | with_reducible exact List.mem_cons_self .. | with_reducible refine List.mem_cons_of_mem _ ?_))); (case hd => (repeat (first | with_reducible assumption | with_reducible exact List.mem_cons_self .. | with_reducible refine List.mem_cons_of_mem _ ?_))); (case h1 => ((try simp only [depth_mark, depth_under_make, depth_under_kw, depth_in1, depth_deeper]); (try dsimp only [ktrTop]); omega)); (case h2 => ((try dsimp only [ktrTop, Around.in1, Around.deeper, Around.mark]); omega)); (case hc => assumption); k_whole) | ((with_reducible show wpAny _ _ (getAttr (Value.ref _) ("args" : Str) _) _ _ _); refine' exc_argsN ?N ?he ?hd ?_; (case N => k_asm); (case he => (repeat (first | with_reducible assumption | with_reducible exact List.mem_cons_self .. | with_reducible refine List.mem_cons_of_mem _ ?_))); (case hd => (repeat (first | with_reducible assumption | with_reducible exact List.mem_cons_self .. | with_reducible refine List.mem_cons_of_mem _ ?_))); k_whole))))
        | ((with_reducible show wpAny _ _ (callWith _ (Value.ref _) _ _ _) _ _ _); with_reducible (k_here; (try dsimp only); k_dflt (refine' callWith_F0 ?k1 ?_; (case k1 => refine' FnAt.of ?n0 ?n1; (case n0 => k_asm); (case n1 => assumption)); k_whole; (try dsimp only [List.nil_append, List.cons_append]))))
        | (with_reducible (k_here; (with_reducible show wpAny _ _ (call (Value.ref _) [] _) _ _ _); (with_reducible rename Comes _ _ _ _ _ _ _ => hC); k_dflt (refine' hC _ _ _ _ _ _ _ _ _ _ _ _ _ _ _ _ _ _ _ _ _ _ _ ?B ?F ?X ?N ?T ?hk ?hd ?hu ?hP ?_ ?_; (case B => k_asm); (case F => k_asm); (case X => k_asm); (case N => k_asm); (case T => k_asm); (case hk => exact rfl); (case hd => ((try dsimp only [ktrTop, Around.in1, Around.deeper]); omega)); (case hu => ((try dsimp only [ktrTop, Around.in1, Around.deeper]); omega)); (case hP => assumption)); (try clear hC)))
        | walk1 | (dsimp only; walk1) | (leave1; (try dsimp only))))
      rename Obj.IsDictOf _ _ (strPairs _) => hdd
      rename _ < _ ∧ _ < _ ∧ _ < _ ∧ AllLt _ _ => hA
      all_goals exact post _ _ _ _ _ (.fault _ _ _ _ _ [_, _, _] hy (by assumption) hdd (fr3 hA)) (by assumption) (by assumption) (by assumption) (by assumption) (by assumption) (by assumption) (by assumption)
  · exact post _ _ _ _ _ (.val _ _ _ (by assumption) (by assumption)) .refl B (by assumption) X (by assumption) T DD
end Mine
end
section
open PySem PySem.W PyProof.Rows PySem.Calls PySem.SeqAt
set_option Elab.async false
set_option maxRecDepth 100000
set_option maxHeartbeats 8000000
namespace Mine
noncomputable abbrev methDict (w : World) (t1 t2 t3 : Tok) (f : Addr) (n : Str) : Obj := dictOf [⟨PyData.keyHash w.params "_Method__send", .str "_Method__send" t1, .ref f⟩, ⟨PyData.keyHash w.params "_Method__name", .str "_Method__name" t2, .str n t3⟩] 2
theorem ne_obj {h₀ h : Heap} {L a b : Addr} {o o' : Obj} {l : Led} (N : News h₀ L h l) (h1 : (a, o) ∈ l) (h2 : (b, o') ∈ l) (hne : o.cls ≠ o'.cls) : a ≠ b := fun e => by
  have e1 := (N _ h1).1
  have e2 := (N _ h2).1
  dsimp only at e1 e2
  rw [e, e2] at e1
  exact hne (congrArg Obj.cls (Option.some.inj e1)).symm
theorem sub_cons {t : Addr} {o : Obj} {l nw : Led} (h : (t, o) ∈ l) (k : ∀ q ∈ nw, q ∈ l) : ∀ q ∈ (t, o) :: nw, q ∈ l := fun q hq => by
  rcases List.mem_cons.mp hq with rfl | hq
  · exact h
  · exact k q hq
theorem sub_tail {a : Addr × Obj} {l nw : Led} (k : ∀ q ∈ nw, q ∈ l) : ∀ q ∈ nw, q ∈ a :: l := fun q hq => .tail _ (k q hq)
theorem news_sub {h₀ h : Heap} {L : Addr} {l l' : Led} (N : News h₀ L h l) (s : ∀ q ∈ l', q ∈ l) : News h₀ L h l' := fun q hq => N q (s q hq)
theorem raised_sub {base G h : Heap} {fr : List Env} {e : Addr} {P : Obj → Prop} {l l' : Led} (R : RaisedP base G fr e P l h) (s : ∀ q ∈ l', q ∈ l) : RaisedP base G fr e P l' h :=
  let ⟨B, st, a, b, c, d, x⟩ := R; ⟨B, st, a, b, c, fun q hq => d q (s q hq), x⟩
theorem sub_app {ex l l' : Led} (k : ∀ q ∈ l', q ∈ l) : ∀ q ∈ ex ++ l', q ∈ ex ++ l := fun q hq => by
  rcases List.mem_append.mp hq with h | h
  · exact List.mem_append_left _ h
  · exact List.mem_append_right _ (k q h)
theorem above_sub {ex l l' : Led} (h : ∀ q ∈ ex, ∀ q' ∈ l, q'.1 < q.1) (k : ∀ q ∈ l', q ∈ l) : ∀ q ∈ ex, ∀ q' ∈ l', q'.1 < q.1 := fun q hq q' hq' => h q hq q' (k q' hq')
/-- the sender of the methods, asked with a name and a tuple -/
def Sends (w : World) (lH : Addr) (ns ns' : List Int) (O : Rep) (D : Nat) (nw : Led) (f : Addr) (name : Str) (P : Array Value → Prop) : Prop :=
  ∀ tup tn its, P its → Does w lH ns ns' O D ((tup, tupOf its) :: nw) (.ref f) [.str name tn, .ref tup]
section
variable {w : World} {A : Around} {E : Value → Shared → Prop} {h₀ h : Heap} {L x d f : Addr} {news : Led} {t1 t2 t3 : Tok} {n : Str} {gg dd os} {tk : Nat} {expr : Bool} {Q : Value → Shared → Prop}
theorem inst_N (N : News h₀ L h news) {C : Addr} {o : Obj} (h1 : (x, instObj C d) ∈ news) (h2 : (d, o) ∈ news) : InstAt h x (instObj C d) C (some o) := InstAt.of_news N h1 h2
theorem meth_send (X : (topH.heap_1 w.params).In h) (N : News h₀ L h news) (h1 : (x, instObj 147 d) ∈ news) (h2 : (d, methDict w t1 t2 t3 f n) ∈ news) (q : Q (.ref f) ⟨h, gg, dd, tk + 1, os⟩) :
    wpAny (model PySem.Challenge.rw_kn0109_04.row.prog w) A (getAttr (.ref x) "_Method__send" expr) Q E ⟨h, gg, dd, tk, os⟩ :=
  get_value (s := ⟨h, gg, dd, tk, os⟩) (v := .ref f) X (inst_N N h1 h2) (by kernel_rfl) (by kernel_rfl) rfl q
theorem meth_name (X : (topH.heap_1 w.params).In h) (N : News h₀ L h news) (h1 : (x, instObj 147 d) ∈ news) (h2 : (d, methDict w t1 t2 t3 f n) ∈ news) (q : Q (.str n t3) ⟨h, gg, dd, tk + 1, os⟩) :
    wpAny (model PySem.Challenge.rw_kn0109_04.row.prog w) A (getAttr (.ref x) "_Method__name" expr) Q E ⟨h, gg, dd, tk, os⟩ :=
  get_value (s := ⟨h, gg, dd, tk, os⟩) (v := .str n t3) X (inst_N N h1 h2) (by kernel_rfl) (by kernel_rfl) rfl q
end
theorem miss_put {w : World} {t1 t2 t3 : Tok} {f : Addr} {n : Str} : findObj (topH.heap_1 w.params) 147 (some (methDict w t1 t2 t3 f n)) "put" = some .missing := by kernel_rfl
theorem miss_top {w : World} {t1 t2 t3 : Tok} {f : Addr} {n : Str} : findObj (topH.heap_1 w.params) 147 (some (methDict w t1 t2 t3 f n)) "top" = some .missing := by kernel_rfl
theorem miss_take {w : World} {t1 t2 t3 : Tok} {f : Addr} {n : Str} : findObj (topH.heap_1 w.params) 147 (some (methDict w t1 t2 t3 f n)) "take" = some .missing := by kernel_rfl
theorem miss_two {w : World} {t1 t2 t3 : Tok} {f : Addr} {n : Str} : findObj (topH.heap_1 w.params) 147 (some (methDict w t1 t2 t3 f n)) "two" = some .missing := by kernel_rfl
theorem miss_add {w : World} {t1 t2 t3 : Tok} {f : Addr} {n : Str} : findObj (topH.heap_1 w.params) 147 (some (methDict w t1 t2 t3 f n)) "add" = some .missing := by kernel_rfl
theorem miss_turn {w : World} {t1 t2 t3 : Tok} {f : Addr} {n : Str} : findObj (topH.heap_1 w.params) 147 (some (methDict w t1 t2 t3 f n)) "turn" = some .missing := by kernel_rfl
theorem miss_look {w : World} {t1 t2 t3 : Tok} {f : Addr} {n : Str} : findObj (topH.heap_1 w.params) 147 (some (methDict w t1 t2 t3 f n)) "look" = some .missing := by kernel_rfl
theorem miss_at {w : World} {t1 t2 t3 : Tok} {f : Addr} {n : Str} : findObj (topH.heap_1 w.params) 147 (some (methDict w t1 t2 t3 f n)) "at" = some .missing := by kernel_rfl
theorem miss_no {w : World} {t1 t2 t3 : Tok} {f : Addr} {n : Str} : findObj (topH.heap_1 w.params) 147 (some (methDict w t1 t2 t3 f n)) "_no" = some .missing := by kernel_rfl
theorem miss_such {w : World} {t1 t2 t3 : Tok} {f : Addr} {n : Str} : findObj (topH.heap_1 w.params) 147 (some (methDict w t1 t2 t3 f n)) "such" = some .missing := by kernel_rfl
theorem meth_sendM {w : World} {A : Around} {E : Value → Shared → Prop} {h₀ h : Heap} {L x d f : Addr} {news : Led} {t1 t2 t3 : Tok} {n : Str} {gg dd os} {tk : Nat} {pl : Sem Bool} {Q : Value × List Value → Shared → Prop} (X : (topH.heap_1 w.params).In h) (N : News h₀ L h news) (h1 : (x, instObj 147 d) ∈ news) (h2 : (d, methDict w t1 t2 t3 f n) ∈ news) (q : Q (.ref f, []) ⟨h, gg, dd, tk + 1, os⟩) :
    wpAny (model PySem.Challenge.rw_kn0109_04.row.prog w) A (getMethod (.ref x) "_Method__send" pl) Q E ⟨h, gg, dd, tk, os⟩ := by
  have I := inst_N N h1 h2
  have L0 := I.type (M := model PySem.Challenge.rw_kn0109_04.row.prog w)
  have L1 := looks_findIn (M := model PySem.Challenge.rw_kn0109_04.row.prog w) (t := .ref 147) (name := "__getattribute__") X (r := some (.builtin "object.__getattribute__")) (by kernel_rfl)
  have L2 := looks_findIn (M := model PySem.Challenge.rw_kn0109_04.row.prog w) (t := .ref 147) (name := "__getattr__") X (r := some (.ref 137)) (by kernel_rfl)
  unfold getMethod specialOf
  refine wpAny_bind (wpAny_bind (L0.at (L1.at ?_)))
  dsimp only
  have hc := PySem.F.canon_object_ga
  rw [hc, if_neg Bool.false_ne_true]
  refine wpAny_bind (wpAny_bind (L0.at (L2.at ?_)))
  rw [if_pos (show (some (Value.ref 137)).isSome = true from rfl)]
  exact wpAny_bind (meth_send X N h1 h2 (wpAny_pure q))
local macro_rules | `(tactic| k_updF) => `(tactic| first | assumption | (refine' UpdF.tail ?uu ?ll; (case uu => (refine' ne_obj ?n0 ?n1 ?n2 ?n3; (case n0 => k_asm); (case n1 => (repeat (first | with_reducible assumption | with_reducible exact List.mem_cons_self .. | with_reducible refine List.mem_cons_of_mem _ ?_))); (case n2 => (repeat (first | with_reducible assumption | with_reducible exact List.mem_cons_self .. | with_reducible refine List.mem_cons_of_mem _ ?_))); (case n3 => (intro e; simp at e)))); (case ll => k_updF)))
theorem getattr_call {w : World} {x d f : Addr} {t1 t2 t3 ta : Tok} {n a : Str} (dp un : Nat) (gd : Option (List Code)) (cn : Str) (cs : Scope) (ad : Addr) (ccd : Value) (cl : List (Str × Addr)) (outer : List Env) (A₀ : Around) (base h₀ : Heap) (L : Addr) (m : Str → Option Value) (s : Shared) (Q E : Value → Shared → Prop)
    (p : Program) (loose : List Str) (mean : ExcName → Option Value) (mg mb : Str → Option Value) (nw' : Led) (B : Below A₀ base outer h₀) (F : Fr h₀ L s.heap m) (N : News h₀ L s.heap nw') (T : Top p loose mean mg mb h₀) (hk : cs.kind = .function) (hd : dp + 4 ≤ 390) (hu : un + 32 ≤ 400) (hn : n.length ≤ 100) (ha : a.length ≤ 100)
    (h1 : (x, instObj 147 d) ∈ nw') (h2 : (d, methDict w t1 t2 t3 f n) ∈ nw')
    (post : ∀ h' tk' x' d' u1 u2 u3, Fr h₀ L h' m → News h₀ L h' ((x', instObj 147 d') :: (d', methDict w u1 u2 u3 f (Str.empty ++ n ++ "." ++ a)) :: nw') → (∀ q ∈ nw', q.1 < d') → d' < x' → Q (.ref x') { s with heap := h', toks := tk' }) :
    (topH.heap_1 w.params).In h₀ → wpAny (model PySem.Challenge.rw_kn0109_04.row.prog w) (ktrTop dp un gd cn cs L ad ccd cl outer) (call (.ref 137) [.ref x, .str a ta]) Q E s := by
  w_top off
  k_fill
  intro X
  refine wpAny_call ?_
  k_dflt cell_enter
  (repeat' (first
    | (k_unfold; (try dsimp only)) | (k_end; wrow_close)
    | (with_reducible ((with_reducible show FnAt _ _ ∧ _); refine' And.intro ?k1 ?_; (case k1 => refine' FnAt.of ?n0 ?n1; (case n0 => k_asm); (case n1 => (repeat (first | with_reducible assumption | with_reducible exact List.mem_cons_self .. | with_reducible refine List.mem_cons_of_mem _ ?_)))); (try dsimp only [List.nil_append, List.cons_append])))
    | ((with_reducible show wpAny _ _ (callWith _ (Value.ref _) _ _ _) _ _ _); with_reducible (k_here; (try dsimp only); k_dflt (refine' callWith_F ?k1 ?_; (case k1 => refine' FnAt.of ?n0 ?n1; (case n0 => k_asm); (case n1 => (repeat (first | with_reducible assumption | with_reducible exact List.mem_cons_self .. | with_reducible refine List.mem_cons_of_mem _ ?_)))); k_whole)))
    | (with_reducible (k_here; (with_reducible show wpAny _ _ (call (Value.ref _) [Value.str _ _, Value.ref _] _) _ _ _); (with_reducible rename Sends _ _ _ _ _ _ _ _ _ _ => hS); k_dflt (refine' hS _ _ _ ?P _ _ _ _ _ _ _ _ _ _ _ _ _ _ _ _ _ _ _ _ _ _ _ _ _ _ ?B ?F ?X ?N ?T ?hk ?hd ?hu ?hn ?hI ?U ?_ ?_; (case B => k_asm); (case F => k_asm); (case X => k_asm); (case N => k_asm); (case T => k_asm); (case hk => exact rfl); (case hd => ((try dsimp only [ktrTop, Around.in1, Around.deeper]); omega)); (case hu => ((try dsimp only [ktrTop, Around.in1, Around.deeper]); omega)); (case hn => (refine sub_cons ?_ ?_; (repeat (first | with_reducible assumption | with_reducible exact List.mem_cons_self .. | with_reducible refine List.mem_cons_of_mem _ ?_)); (repeat (first | assumption | refine sub_tail ?_)))); (case hI => assumption); (case U => k_updF); (case P => first | exact rfl | exact ⟨_, rfl⟩ | exact ⟨_, _, rfl⟩ | exact ⟨_, _, _, rfl⟩ | exact True.intro); skip); (try clear hS)))
    | (with_reducible (k_here; (with_reducible show wpAny _ _ (call (Value.ref _) _ _) _ _ _); k_dflt (refine wpAny_call ?_; refine' kco_code ?k1 ?k2 ?k3 ?k4 ?k5 ?k6 ?_; (case k1 => k_in); (case k2 => (refine' inst_N ?n0 ?n1 ?n2; (case n0 => k_asm); (case n1 => (repeat (first | with_reducible assumption | with_reducible exact List.mem_cons_self .. | with_reducible refine List.mem_cons_of_mem _ ?_))); (case n2 => (repeat (first | with_reducible assumption | with_reducible exact List.mem_cons_self .. | with_reducible refine List.mem_cons_of_mem _ ?_))))); (case k3 => rfl); (case k4 => k_is); (case k5 => k_is); (case k6 => k_is); (try dsimp only); k_enter)))
    | ((with_reducible show wpAny _ _ (leaving _ (Value.ref _)) _ _ _); with_reducible (k_here; k_dflt (first | (refine' leave_madeP ?k1 (Heap.MadeExc.of (by assumption)) ?k2 ?k3 ?_ ?k6 ?k5; (case k6 => exact rfl); (case k2 => assumption); (case k1 => assumption); (case k3 => k_asm); (case k5 => exact rfl); k_whole; intro h' t' R' U'; (try dsimp only at U' ⊢)) | (refine' leave_indexP ?k1 ?k0 ?k2 ?k3 ?_ ?k6 ?k5; (case k6 => exact rfl); (case k0 => assumption); (case k2 => assumption); (case k1 => assumption); (case k3 => k_asm); (case k5 => exact rfl); k_whole; intro h' R' U'; (try dsimp only at U' ⊢)) | (refine' leave_faultP ?k1 ?k0 ?k2 ?k3 ?_ ?k6 ?k5; (case k6 => exact rfl); (case k0 => assumption); (case k2 => assumption); (case k1 => assumption); (case k3 => k_asm); (case k5 => exact rfl); k_whole; intro h' t' dx' t1' t2' R' U'; (try dsimp only at U' ⊢)) | (refine' leaveOnP rfl ?k0 ?k1 ?k2 ?k3 ?k4 ?_; (case k3 => assumption); (case k0 => exact XIs.still (by assumption)); (case k1 => assumption); (case k2 => assumption); (case k4 => assumption); k_whole; intro h' R' U'; (try dsimp only at U' ⊢)))))
    | ((with_reducible show wpAny _ _ (getAttr (Value.ref _) _ _) _ _ _); with_reducible (k_here; k_dflt (first | (with_reducible refine' meth_send ?X ?N ?h1 ?h2 ?_; (case X => k_in); (case N => k_asm); (case h1 => (repeat (first | with_reducible assumption | with_reducible exact List.mem_cons_self .. | with_reducible refine List.mem_cons_of_mem _ ?_))); (case h2 => (repeat (first | with_reducible assumption | with_reducible exact List.mem_cons_self .. | with_reducible refine List.mem_cons_of_mem _ ?_)))) | (with_reducible refine' meth_name ?X ?N ?h1 ?h2 ?_; (case X => k_in); (case N => k_asm); (case h1 => (repeat (first | with_reducible assumption | with_reducible exact List.mem_cons_self .. | with_reducible refine List.mem_cons_of_mem _ ?_))); (case h2 => (repeat (first | with_reducible assumption | with_reducible exact List.mem_cons_self .. | with_reducible refine List.mem_cons_of_mem _ ?_)))))))
    | walk1 | (dsimp only; walk1) | (leave1; (try dsimp only))))
  all_goals exact post _ _ _ _ _ _ _ (by k_asm) (by assumption) (by assumption) (by assumption)
theorem hookA {w : World} {x d f : Addr} {t1 t2 t3 : Tok} {n a : Str} {dp un : Nat} {gd : Option (List Code)} {cn : Str} {cs : Scope} {ad : Addr} {ccd : Value} {cl : List (Str × Addr)} {outer : List Env} {A₀ : Around} {base h₀ : Heap} {L : Addr} {m : Str → Option Value} {h : Heap} {gg dd os} {tk : Nat} {Q E : Value → Shared → Prop}
    {p : Program} {loose : List Str} {mean : ExcName → Option Value} {mg mb : Str → Option Value} {nw' : Led} {expr : Bool} (B : Below A₀ base outer h₀) (F : Fr h₀ L h m) (X : (topH.heap_1 w.params).In h₀) (N : News h₀ L h nw') (T : Top p loose mean mg mb h₀) (hk : cs.kind = .function) (hd : dp + 4 ≤ 390) (hu : un + 40 ≤ 400) (hn : n.length ≤ 100) (ha : a.length ≤ 100)
    (h1 : (x, instObj 147 d) ∈ nw') (h2 : (d, methDict w t1 t2 t3 f n) ∈ nw') (miss : ∀ u1 u2 u3 g k, findObj (topH.heap_1 w.params) 147 (some (methDict w u1 u2 u3 g k)) a = some .missing)
    (post : ∀ h' tk' x' d' u1 u2 u3, Fr h₀ L h' m → News h₀ L h' ((x', instObj 147 d') :: (d', methDict w u1 u2 u3 f (Str.empty ++ n ++ "." ++ a)) :: nw') → (∀ q ∈ nw', q.1 < d') → d' < x' → Q (.ref x') ⟨h', gg, dd, tk', os⟩) :
    wpAny (model PySem.Challenge.rw_kn0109_04.row.prog w) (ktrTop dp un gd cn cs L ad ccd cl outer) (getAttr (.ref x) a expr) Q E ⟨h, gg, dd, tk, os⟩ :=
  get_hook (s := ⟨h, gg, dd, tk, os⟩) (X.keeps F.keep) (inst_N N h1 h2) (by kernel_rfl) (miss ..) (f := 137) (by kernel_rfl) (by kernel_rfl)
    (getattr_call dp (un + 1) gd cn cs ad ccd cl outer A₀ base h₀ L m ⟨h, gg, dd, tk + 1, os⟩ _ _ p loose mean mg mb nw' B F N T hk hd (by omega) hn ha h1 h2 (fun h' tk' x' d' u1 u2 u3 a b c e => ⟨rfl, post h' tk' x' d' u1 u2 u3 a b c e⟩) X)
theorem hookM {w : World} {x d f : Addr} {t1 t2 t3 : Tok} {n a : Str} {dp un : Nat} {gd : Option (List Code)} {cn : Str} {cs : Scope} {ad : Addr} {ccd : Value} {cl : List (Str × Addr)} {outer : List Env} {A₀ : Around} {base h₀ : Heap} {L : Addr} {m : Str → Option Value} {h : Heap} {gg dd os} {tk : Nat} {Q : Value × List Value → Shared → Prop} {E : Value → Shared → Prop}
    {p : Program} {loose : List Str} {mean : ExcName → Option Value} {mg mb : Str → Option Value} {nw' : Led} {pl : Sem Bool} (B : Below A₀ base outer h₀) (F : Fr h₀ L h m) (X : (topH.heap_1 w.params).In h₀) (N : News h₀ L h nw') (T : Top p loose mean mg mb h₀) (hk : cs.kind = .function) (hd : dp + 4 ≤ 390) (hu : un + 40 ≤ 400) (hn : n.length ≤ 100) (ha : a.length ≤ 100)
    (h1 : (x, instObj 147 d) ∈ nw') (h2 : (d, methDict w t1 t2 t3 f n) ∈ nw') (miss : ∀ u1 u2 u3 g k, findObj (topH.heap_1 w.params) 147 (some (methDict w u1 u2 u3 g k)) a = some .missing)
    (post : ∀ h' tk' x' d' u1 u2 u3, Fr h₀ L h' m → News h₀ L h' ((x', instObj 147 d') :: (d', methDict w u1 u2 u3 f (Str.empty ++ n ++ "." ++ a)) :: nw') → (∀ q ∈ nw', q.1 < d') → d' < x' → Q (.ref x', []) ⟨h', gg, dd, tk', os⟩) :
    wpAny (model PySem.Challenge.rw_kn0109_04.row.prog w) (ktrTop dp un gd cn cs L ad ccd cl outer) (getMethod (.ref x) a pl) Q E ⟨h, gg, dd, tk, os⟩ :=
  meth_hook (s := ⟨h, gg, dd, tk, os⟩) (X.keeps F.keep) (inst_N N h1 h2) (by kernel_rfl) (miss ..) (f := 137) (by kernel_rfl) (by kernel_rfl)
    (getattr_call dp (un + 1) gd cn cs ad ccd cl outer A₀ base h₀ L m ⟨h, gg, dd, tk + 1, os⟩ _ _ p loose mean mg mb nw' B F N T hk hd (by omega) hn ha h1 h2 (fun h' tk' x' d' u1 u2 u3 a b c e => ⟨rfl, post h' tk' x' d' u1 u2 u3 a b c e⟩) X)
theorem call_put {w : World} {lH mA dA fS : Addr} {t1 t2 t3 tx : Tok} {x : Int} {ns ns' : List Int} {O : Rep} {nw : Led} {oc : Value} {od : Option Addr} {fd : FuncData} {sl : Array (Option Value)} (hst : x.fmod 7 < 2) (h1 : (mA, instObj 147 dA) ∈ nw) (h2 : (dA, methDict w t1 t2 t3 fS "s") ∈ nw) (h3 : (fS, (⟨oc, od, .func fd, sl⟩ : Obj)) ∈ nw)
    (hS : Sends w lH ns ns' O 5 nw fS "s.put" fun its => ∃ ta, its = #[.int (x.fdiv 7) ta]) : Does w lH ns ns' O 10 nw (.ref 165) [.ref mA, .int x tx] := by
  rw [show ("s.put" : Str) = (Str.empty ++ "s" ++ "." ++ "put") from by decide +kernel] at hS
  unfold Does
  w_top off
  k_fill
  intro dp un gd cn cs a ccd cl outer A₀ base h₀ L m s Q E p loose mean mg mb nw' g vs n B F X N T hk hd hu hn hI U postE post
  have g1 := hn _ h1
  have g2 := hn _ h2
  have g3 := hn _ h3
  have hL := updMem U
  refine wpAny_call ?_
  k_dflt cell_enter
  (repeat' (first
    | (k_unfold; (try dsimp only)) | (k_end; wrow_close)
    | (with_reducible (k_here; (with_reducible show wpAny _ _ (binaryOp Operator.Mod (Value.int _ _) (Value.int 7 _)) _ _ _); (with_reducible rename Int.fmod _ 7 = _ => h4); (with_reducible refine PyProof.Rows.mod_int (by decide) ?_); (simp only [h4])))
    | ((with_reducible show wpAny _ _ (getAttr (Value.ref _) _ _) _ _ _); with_reducible (k_here; k_dflt (first | (with_reducible refine' meth_send ?X ?N ?h1 ?h2 ?_; (case X => k_in); (case N => k_asm); (case h1 => (repeat (first | with_reducible assumption | with_reducible exact List.mem_cons_self .. | with_reducible refine List.mem_cons_of_mem _ ?_))); (case h2 => (repeat (first | with_reducible assumption | with_reducible exact List.mem_cons_self .. | with_reducible refine List.mem_cons_of_mem _ ?_)))) | (with_reducible refine' meth_name ?X ?N ?h1 ?h2 ?_; (case X => k_in); (case N => k_asm); (case h1 => (repeat (first | with_reducible assumption | with_reducible exact List.mem_cons_self .. | with_reducible refine List.mem_cons_of_mem _ ?_))); (case h2 => (repeat (first | with_reducible assumption | with_reducible exact List.mem_cons_self .. | with_reducible refine List.mem_cons_of_mem _ ?_)))))))
    | ((with_reducible show wpAny _ _ (getMethod (Value.ref _) _ _) _ _ _); with_reducible (k_here; k_dflt (with_reducible refine' meth_sendM ?X ?N ?h1 ?h2 ?_; (case X => k_in); (case N => k_asm); (case h1 => (repeat (first | with_reducible assumption | with_reducible exact List.mem_cons_self .. | with_reducible refine List.mem_cons_of_mem _ ?_))); (case h2 => (repeat (first | with_reducible assumption | with_reducible exact List.mem_cons_self .. | with_reducible refine List.mem_cons_of_mem _ ?_))))))
    | ((with_reducible show wpAny _ _ (getAttr (Value.ref _) _ _) _ _ _); with_reducible (k_here; k_dflt (refine' hookA ?B ?F ?X ?N ?T ?hk ?hd ?hu ?hn ?ha ?h1 ?h2 ?miss ?_; (case B => k_asm); (case F => k_asm); (case X => k_asm); (case N => k_asm); (case T => k_asm); (case hk => exact rfl); (case hd => ((try dsimp only [ktrTop, Around.in1, Around.deeper]); omega)); (case hu => ((try dsimp only [ktrTop, Around.in1, Around.deeper]); omega)); (case h1 => (repeat (first | with_reducible assumption | with_reducible exact List.mem_cons_self .. | with_reducible refine List.mem_cons_of_mem _ ?_))); (case h2 => (repeat (first | with_reducible assumption | with_reducible exact List.mem_cons_self .. | with_reducible refine List.mem_cons_of_mem _ ?_))); (case hn => decide +kernel); (case ha => decide +kernel); (case miss => with_reducible first | exact fun _ _ _ _ _ => miss_put | exact fun _ _ _ _ _ => miss_top | exact fun _ _ _ _ _ => miss_take | exact fun _ _ _ _ _ => miss_two | exact fun _ _ _ _ _ => miss_add | exact fun _ _ _ _ _ => miss_turn | exact fun _ _ _ _ _ => miss_look | exact fun _ _ _ _ _ => miss_at | exact fun _ _ _ _ _ => miss_no | exact fun _ _ _ _ _ => miss_such)); intro h' tk' x' d' u1' u2' u3' F' N' l1 l2))
    | ((with_reducible show wpAny _ _ (getMethod (Value.ref _) _ _) _ _ _); with_reducible (k_here; k_dflt (refine' hookM ?B ?F ?X ?N ?T ?hk ?hd ?hu ?hn ?ha ?h1 ?h2 ?miss ?_; (case B => k_asm); (case F => k_asm); (case X => k_asm); (case N => k_asm); (case T => k_asm); (case hk => exact rfl); (case hd => ((try dsimp only [ktrTop, Around.in1, Around.deeper]); omega)); (case hu => ((try dsimp only [ktrTop, Around.in1, Around.deeper]); omega)); (case h1 => (repeat (first | with_reducible assumption | with_reducible exact List.mem_cons_self .. | with_reducible refine List.mem_cons_of_mem _ ?_))); (case h2 => (repeat (first | with_reducible assumption | with_reducible exact List.mem_cons_self .. | with_reducible refine List.mem_cons_of_mem _ ?_))); (case hn => decide +kernel); (case ha => decide +kernel); (case miss => with_reducible first | exact fun _ _ _ _ _ => miss_put | exact fun _ _ _ _ _ => miss_top | exact fun _ _ _ _ _ => miss_take | exact fun _ _ _ _ _ => miss_two | exact fun _ _ _ _ _ => miss_add | exact fun _ _ _ _ _ => miss_turn | exact fun _ _ _ _ _ => miss_look | exact fun _ _ _ _ _ => miss_at | exact fun _ _ _ _ _ => miss_no | exact fun _ _ _ _ _ => miss_such)); intro h' tk' x' d' u1' u2' u3' F' N' l1 l2))
    | (with_reducible ((with_reducible show FnAt _ _ ∧ _); refine' And.intro ?k1 ?_; (case k1 => refine' FnAt.of ?n0 ?n1; (case n0 => k_asm); (case n1 => (repeat (first | with_reducible assumption | with_reducible exact List.mem_cons_self .. | with_reducible refine List.mem_cons_of_mem _ ?_)))); (try dsimp only [List.nil_append, List.cons_append])))
    | ((with_reducible show wpAny _ _ (callWith _ (Value.ref _) _ _ _) _ _ _); with_reducible (k_here; (try dsimp only); k_dflt (refine' callWith_F ?k1 ?_; (case k1 => refine' FnAt.of ?n0 ?n1; (case n0 => k_asm); (case n1 => (repeat (first | with_reducible assumption | with_reducible exact List.mem_cons_self .. | with_reducible refine List.mem_cons_of_mem _ ?_)))); k_whole)))
    | (with_reducible (k_here; (with_reducible show wpAny _ _ (call (Value.ref _) [Value.str _ _, Value.ref _] _) _ _ _); (with_reducible rename Sends _ _ _ _ _ _ _ _ _ _ => hS); k_dflt (refine' hS _ _ _ ?P _ _ _ _ _ _ _ _ _ _ _ _ _ _ _ _ _ _ _ _ _ _ _ _ _ _ ?B ?F ?X ?N ?T ?hk ?hd ?hu ?hn ?hI ?U ?_ ?_; (case B => k_asm); (case F => k_asm); (case X => k_asm); (case N => k_asm); (case T => k_asm); (case hk => exact rfl); (case hd => ((try dsimp only [ktrTop, Around.in1, Around.deeper]); omega)); (case hu => ((try dsimp only [ktrTop, Around.in1, Around.deeper]); omega)); (case hn => (refine sub_cons ?_ ?_; (repeat (first | with_reducible assumption | with_reducible exact List.mem_cons_self .. | with_reducible refine List.mem_cons_of_mem _ ?_)); (repeat (first | assumption | refine sub_tail ?_)))); (case hI => assumption); (case U => k_updF); (case P => first | exact rfl | exact ⟨_, rfl⟩ | exact ⟨_, _, rfl⟩ | exact ⟨_, _, _, rfl⟩ | exact True.intro); skip); (try clear hS)))
    | (with_reducible (k_here; (with_reducible show wpAny _ _ (call (Value.ref _) _ _) _ _ _); k_dflt (refine wpAny_call ?_; refine' kco_code ?k1 ?k2 ?k3 ?k4 ?k5 ?k6 ?_; (case k1 => k_in); (case k2 => (refine' inst_N ?n0 ?n1 ?n2; (case n0 => k_asm); (case n1 => (repeat (first | with_reducible assumption | with_reducible exact List.mem_cons_self .. | with_reducible refine List.mem_cons_of_mem _ ?_))); (case n2 => (repeat (first | with_reducible assumption | with_reducible exact List.mem_cons_self .. | with_reducible refine List.mem_cons_of_mem _ ?_))))); (case k3 => rfl); (case k4 => k_is); (case k5 => k_is); (case k6 => k_is); (try dsimp only); k_enter)))
    | ((with_reducible show wpAny _ _ (leaving _ (Value.ref _)) _ _ _); with_reducible (k_here; k_dflt (first | (refine' leave_madeP ?k1 (Heap.MadeExc.of (by assumption)) ?k2 ?k3 ?_ ?k6 ?k5; (case k6 => exact rfl); (case k2 => assumption); (case k1 => assumption); (case k3 => k_asm); (case k5 => exact rfl); k_whole; intro h' t' R' U'; (try dsimp only at U' ⊢)) | (refine' leave_indexP ?k1 ?k0 ?k2 ?k3 ?_ ?k6 ?k5; (case k6 => exact rfl); (case k0 => assumption); (case k2 => assumption); (case k1 => assumption); (case k3 => k_asm); (case k5 => exact rfl); k_whole; intro h' R' U'; (try dsimp only at U' ⊢)) | (refine' leave_faultP ?k1 ?k0 ?k2 ?k3 ?_ ?k6 ?k5; (case k6 => exact rfl); (case k0 => assumption); (case k2 => assumption); (case k1 => assumption); (case k3 => k_asm); (case k5 => exact rfl); k_whole; intro h' t' dx' t1' t2' R' U'; (try dsimp only at U' ⊢)) | (refine' leaveOnP rfl ?k0 ?k1 ?k2 ?k3 ?k4 ?_; (case k3 => assumption); (case k0 => exact XIs.still (by assumption)); (case k1 => assumption); (case k2 => assumption); (case k4 => assumption); k_whole; intro h' R' U'; (try dsimp only at U' ⊢)))))
    | walk1 | (dsimp only; walk1) | (leave1; (try dsimp only))))
  all_goals first
    | exact postE _ _ (by assumption) _ _ _ _ _ _ _ _ _ (by assumption) (by assumption) (by assumption) (by assumption) (raised_sub (by assumption) (sub_app (sub_app (by repeat (first | exact fun _ h => h | refine sub_tail ?_))))) (by assumption) (above_sub (by assumption) (by repeat (first | exact fun _ h => h | refine sub_tail ?_)))
    | exact post _ _ _ _ _ _ (by assumption) (by assumption) (by assumption) (news_sub (by assumption) (sub_app (by repeat (first | exact fun _ h => h | refine sub_tail ?_)))) (above_sub (by assumption) (by repeat (first | exact fun _ h => h | refine sub_tail ?_)))
theorem call_take {w : World} {lH mA dA fS : Addr} {t1 t2 t3 tx : Tok} {x : Int} {ns ns' : List Int} {O : Rep} {nw : Led} {oc : Value} {od : Option Addr} {fd : FuncData} {sl : Array (Option Value)} (hst : x.fmod 7 = 2) (h1 : (mA, instObj 147 dA) ∈ nw) (h2 : (dA, methDict w t1 t2 t3 fS "s") ∈ nw) (h3 : (fS, (⟨oc, od, .func fd, sl⟩ : Obj)) ∈ nw)
    (hS : Sends w lH ns ns' O 5 nw fS "s.top.take" fun its => its = #[]) : Does w lH ns ns' O 10 nw (.ref 165) [.ref mA, .int x tx] := by
  rw [show ("s.top.take" : Str) = (Str.empty ++ (Str.empty ++ "s" ++ "." ++ "top") ++ "." ++ "take") from by decide +kernel] at hS
  unfold Does
  w_top off
  k_fill
  intro dp un gd cn cs a ccd cl outer A₀ base h₀ L m s Q E p loose mean mg mb nw' g vs n B F X N T hk hd hu hn hI U postE post
  have g1 := hn _ h1
  have g2 := hn _ h2
  have g3 := hn _ h3
  have hL := updMem U
  refine wpAny_call ?_
  k_dflt cell_enter
  (repeat' (first
    | (k_unfold; (try dsimp only)) | (k_end; wrow_close)
    | (with_reducible (k_here; (with_reducible show wpAny _ _ (binaryOp Operator.Mod (Value.int _ _) (Value.int 7 _)) _ _ _); (with_reducible rename Int.fmod _ 7 = _ => h4); (with_reducible refine PyProof.Rows.mod_int (by decide) ?_); (simp only [h4])))
    | ((with_reducible show wpAny _ _ (getAttr (Value.ref _) _ _) _ _ _); with_reducible (k_here; k_dflt (first | (with_reducible refine' meth_send ?X ?N ?h1 ?h2 ?_; (case X => k_in); (case N => k_asm); (case h1 => (repeat (first | with_reducible assumption | with_reducible exact List.mem_cons_self .. | with_reducible refine List.mem_cons_of_mem _ ?_))); (case h2 => (repeat (first | with_reducible assumption | with_reducible exact List.mem_cons_self .. | with_reducible refine List.mem_cons_of_mem _ ?_)))) | (with_reducible refine' meth_name ?X ?N ?h1 ?h2 ?_; (case X => k_in); (case N => k_asm); (case h1 => (repeat (first | with_reducible assumption | with_reducible exact List.mem_cons_self .. | with_reducible refine List.mem_cons_of_mem _ ?_))); (case h2 => (repeat (first | with_reducible assumption | with_reducible exact List.mem_cons_self .. | with_reducible refine List.mem_cons_of_mem _ ?_)))))))
    | ((with_reducible show wpAny _ _ (getMethod (Value.ref _) _ _) _ _ _); with_reducible (k_here; k_dflt (with_reducible refine' meth_sendM ?X ?N ?h1 ?h2 ?_; (case X => k_in); (case N => k_asm); (case h1 => (repeat (first | with_reducible assumption | with_reducible exact List.mem_cons_self .. | with_reducible refine List.mem_cons_of_mem _ ?_))); (case h2 => (repeat (first | with_reducible assumption | with_reducible exact List.mem_cons_self .. | with_reducible refine List.mem_cons_of_mem _ ?_))))))
    | ((with_reducible show wpAny _ _ (getAttr (Value.ref _) _ _) _ _ _); with_reducible (k_here; k_dflt (refine' hookA ?B ?F ?X ?N ?T ?hk ?hd ?hu ?hn ?ha ?h1 ?h2 ?miss ?_; (case B => k_asm); (case F => k_asm); (case X => k_asm); (case N => k_asm); (case T => k_asm); (case hk => exact rfl); (case hd => ((try dsimp only [ktrTop, Around.in1, Around.deeper]); omega)); (case hu => ((try dsimp only [ktrTop, Around.in1, Around.deeper]); omega)); (case h1 => (repeat (first | with_reducible assumption | with_reducible exact List.mem_cons_self .. | with_reducible refine List.mem_cons_of_mem _ ?_))); (case h2 => (repeat (first | with_reducible assumption | with_reducible exact List.mem_cons_self .. | with_reducible refine List.mem_cons_of_mem _ ?_))); (case hn => decide +kernel); (case ha => decide +kernel); (case miss => with_reducible first | exact fun _ _ _ _ _ => miss_put | exact fun _ _ _ _ _ => miss_top | exact fun _ _ _ _ _ => miss_take | exact fun _ _ _ _ _ => miss_two | exact fun _ _ _ _ _ => miss_add | exact fun _ _ _ _ _ => miss_turn | exact fun _ _ _ _ _ => miss_look | exact fun _ _ _ _ _ => miss_at | exact fun _ _ _ _ _ => miss_no | exact fun _ _ _ _ _ => miss_such)); intro h' tk' x' d' u1' u2' u3' F' N' l1 l2))
    | ((with_reducible show wpAny _ _ (getMethod (Value.ref _) _ _) _ _ _); with_reducible (k_here; k_dflt (refine' hookM ?B ?F ?X ?N ?T ?hk ?hd ?hu ?hn ?ha ?h1 ?h2 ?miss ?_; (case B => k_asm); (case F => k_asm); (case X => k_asm); (case N => k_asm); (case T => k_asm); (case hk => exact rfl); (case hd => ((try dsimp only [ktrTop, Around.in1, Around.deeper]); omega)); (case hu => ((try dsimp only [ktrTop, Around.in1, Around.deeper]); omega)); (case h1 => (repeat (first | with_reducible assumption | with_reducible exact List.mem_cons_self .. | with_reducible refine List.mem_cons_of_mem _ ?_))); (case h2 => (repeat (first | with_reducible assumption | with_reducible exact List.mem_cons_self .. | with_reducible refine List.mem_cons_of_mem _ ?_))); (case hn => decide +kernel); (case ha => decide +kernel); (case miss => with_reducible first | exact fun _ _ _ _ _ => miss_put | exact fun _ _ _ _ _ => miss_top | exact fun _ _ _ _ _ => miss_take | exact fun _ _ _ _ _ => miss_two | exact fun _ _ _ _ _ => miss_add | exact fun _ _ _ _ _ => miss_turn | exact fun _ _ _ _ _ => miss_look | exact fun _ _ _ _ _ => miss_at | exact fun _ _ _ _ _ => miss_no | exact fun _ _ _ _ _ => miss_such)); intro h' tk' x' d' u1' u2' u3' F' N' l1 l2))
    | (with_reducible ((with_reducible show FnAt _ _ ∧ _); refine' And.intro ?k1 ?_; (case k1 => refine' FnAt.of ?n0 ?n1; (case n0 => k_asm); (case n1 => (repeat (first | with_reducible assumption | with_reducible exact List.mem_cons_self .. | with_reducible refine List.mem_cons_of_mem _ ?_)))); (try dsimp only [List.nil_append, List.cons_append])))
    | ((with_reducible show wpAny _ _ (callWith _ (Value.ref _) _ _ _) _ _ _); with_reducible (k_here; (try dsimp only); k_dflt (refine' callWith_F ?k1 ?_; (case k1 => refine' FnAt.of ?n0 ?n1; (case n0 => k_asm); (case n1 => (repeat (first | with_reducible assumption | with_reducible exact List.mem_cons_self .. | with_reducible refine List.mem_cons_of_mem _ ?_)))); k_whole)))
    | (with_reducible (k_here; (with_reducible show wpAny _ _ (call (Value.ref _) [Value.str _ _, Value.ref _] _) _ _ _); (with_reducible rename Sends _ _ _ _ _ _ _ _ _ _ => hS); k_dflt (refine' hS _ _ _ ?P _ _ _ _ _ _ _ _ _ _ _ _ _ _ _ _ _ _ _ _ _ _ _ _ _ _ ?B ?F ?X ?N ?T ?hk ?hd ?hu ?hn ?hI ?U ?_ ?_; (case B => k_asm); (case F => k_asm); (case X => k_asm); (case N => k_asm); (case T => k_asm); (case hk => exact rfl); (case hd => ((try dsimp only [ktrTop, Around.in1, Around.deeper]); omega)); (case hu => ((try dsimp only [ktrTop, Around.in1, Around.deeper]); omega)); (case hn => (refine sub_cons ?_ ?_; (repeat (first | with_reducible assumption | with_reducible exact List.mem_cons_self .. | with_reducible refine List.mem_cons_of_mem _ ?_)); (repeat (first | assumption | refine sub_tail ?_)))); (case hI => assumption); (case U => k_updF); (case P => first | exact rfl | exact ⟨_, rfl⟩ | exact ⟨_, _, rfl⟩ | exact ⟨_, _, _, rfl⟩ | exact True.intro); skip); (try clear hS)))
    | (with_reducible (k_here; (with_reducible show wpAny _ _ (call (Value.ref _) _ _) _ _ _); k_dflt (refine wpAny_call ?_; refine' kco_code ?k1 ?k2 ?k3 ?k4 ?k5 ?k6 ?_; (case k1 => k_in); (case k2 => (refine' inst_N ?n0 ?n1 ?n2; (case n0 => k_asm); (case n1 => (repeat (first | with_reducible assumption | with_reducible exact List.mem_cons_self .. | with_reducible refine List.mem_cons_of_mem _ ?_))); (case n2 => (repeat (first | with_reducible assumption | with_reducible exact List.mem_cons_self .. | with_reducible refine List.mem_cons_of_mem _ ?_))))); (case k3 => rfl); (case k4 => k_is); (case k5 => k_is); (case k6 => k_is); (try dsimp only); k_enter)))
    | ((with_reducible show wpAny _ _ (leaving _ (Value.ref _)) _ _ _); with_reducible (k_here; k_dflt (first | (refine' leave_madeP ?k1 (Heap.MadeExc.of (by assumption)) ?k2 ?k3 ?_ ?k6 ?k5; (case k6 => exact rfl); (case k2 => assumption); (case k1 => assumption); (case k3 => k_asm); (case k5 => exact rfl); k_whole; intro h' t' R' U'; (try dsimp only at U' ⊢)) | (refine' leave_indexP ?k1 ?k0 ?k2 ?k3 ?_ ?k6 ?k5; (case k6 => exact rfl); (case k0 => assumption); (case k2 => assumption); (case k1 => assumption); (case k3 => k_asm); (case k5 => exact rfl); k_whole; intro h' R' U'; (try dsimp only at U' ⊢)) | (refine' leave_faultP ?k1 ?k0 ?k2 ?k3 ?_ ?k6 ?k5; (case k6 => exact rfl); (case k0 => assumption); (case k2 => assumption); (case k1 => assumption); (case k3 => k_asm); (case k5 => exact rfl); k_whole; intro h' t' dx' t1' t2' R' U'; (try dsimp only at U' ⊢)) | (refine' leaveOnP rfl ?k0 ?k1 ?k2 ?k3 ?k4 ?_; (case k3 => assumption); (case k0 => exact XIs.still (by assumption)); (case k1 => assumption); (case k2 => assumption); (case k4 => assumption); k_whole; intro h' R' U'; (try dsimp only at U' ⊢)))))
    | walk1 | (dsimp only; walk1) | (leave1; (try dsimp only))))
  all_goals first
    | exact postE _ _ (by assumption) _ _ _ _ _ _ _ _ _ (by assumption) (by assumption) (by assumption) (by assumption) (raised_sub (by assumption) (sub_app (sub_app (by repeat (first | exact fun _ h => h | refine sub_tail ?_))))) (by assumption) (above_sub (by assumption) (by repeat (first | exact fun _ h => h | refine sub_tail ?_)))
    | exact post _ _ _ _ _ _ (by assumption) (by assumption) (by assumption) (news_sub (by assumption) (sub_app (by repeat (first | exact fun _ h => h | refine sub_tail ?_)))) (above_sub (by assumption) (by repeat (first | exact fun _ h => h | refine sub_tail ?_)))
theorem call_add {w : World} {lH mA dA fS : Addr} {t1 t2 t3 tx : Tok} {x : Int} {ns ns' : List Int} {O : Rep} {nw : Led} {oc : Value} {od : Option Addr} {fd : FuncData} {sl : Array (Option Value)} (hst : x.fmod 7 = 3) (h1 : (mA, instObj 147 dA) ∈ nw) (h2 : (dA, methDict w t1 t2 t3 fS "s") ∈ nw) (h3 : (fS, (⟨oc, od, .func fd, sl⟩ : Obj)) ∈ nw)
    (hS : Sends w lH ns ns' O 5 nw fS "s.top.two.add" fun its => its = #[]) : Does w lH ns ns' O 10 nw (.ref 165) [.ref mA, .int x tx] := by
  rw [show ("s.top.two.add" : Str) = (Str.empty ++ (Str.empty ++ (Str.empty ++ "s" ++ "." ++ "top") ++ "." ++ "two") ++ "." ++ "add") from by decide +kernel] at hS
  unfold Does
  w_top off
  k_fill
  intro dp un gd cn cs a ccd cl outer A₀ base h₀ L m s Q E p loose mean mg mb nw' g vs n B F X N T hk hd hu hn hI U postE post
  have g1 := hn _ h1
  have g2 := hn _ h2
  have g3 := hn _ h3
  have hL := updMem U
  refine wpAny_call ?_
  k_dflt cell_enter
  (repeat' (first
    | (k_unfold; (try dsimp only)) | (k_end; wrow_close)
    | (with_reducible (k_here; (with_reducible show wpAny _ _ (binaryOp Operator.Mod (Value.int _ _) (Value.int 7 _)) _ _ _); (with_reducible rename Int.fmod _ 7 = _ => h4); (with_reducible refine PyProof.Rows.mod_int (by decide) ?_); (simp only [h4])))
    | ((with_reducible show wpAny _ _ (getAttr (Value.ref _) _ _) _ _ _); with_reducible (k_here; k_dflt (first | (with_reducible refine' meth_send ?X ?N ?h1 ?h2 ?_; (case X => k_in); (case N => k_asm); (case h1 => (repeat (first | with_reducible assumption | with_reducible exact List.mem_cons_self .. | with_reducible refine List.mem_cons_of_mem _ ?_))); (case h2 => (repeat (first | with_reducible assumption | with_reducible exact List.mem_cons_self .. | with_reducible refine List.mem_cons_of_mem _ ?_)))) | (with_reducible refine' meth_name ?X ?N ?h1 ?h2 ?_; (case X => k_in); (case N => k_asm); (case h1 => (repeat (first | with_reducible assumption | with_reducible exact List.mem_cons_self .. | with_reducible refine List.mem_cons_of_mem _ ?_))); (case h2 => (repeat (first | with_reducible assumption | with_reducible exact List.mem_cons_self .. | with_reducible refine List.mem_cons_of_mem _ ?_)))))))
    | ((with_reducible show wpAny _ _ (getMethod (Value.ref _) _ _) _ _ _); with_reducible (k_here; k_dflt (with_reducible refine' meth_sendM ?X ?N ?h1 ?h2 ?_; (case X => k_in); (case N => k_asm); (case h1 => (repeat (first | with_reducible assumption | with_reducible exact List.mem_cons_self .. | with_reducible refine List.mem_cons_of_mem _ ?_))); (case h2 => (repeat (first | with_reducible assumption | with_reducible exact List.mem_cons_self .. | with_reducible refine List.mem_cons_of_mem _ ?_))))))
    | ((with_reducible show wpAny _ _ (getAttr (Value.ref _) _ _) _ _ _); with_reducible (k_here; k_dflt (refine' hookA ?B ?F ?X ?N ?T ?hk ?hd ?hu ?hn ?ha ?h1 ?h2 ?miss ?_; (case B => k_asm); (case F => k_asm); (case X => k_asm); (case N => k_asm); (case T => k_asm); (case hk => exact rfl); (case hd => ((try dsimp only [ktrTop, Around.in1, Around.deeper]); omega)); (case hu => ((try dsimp only [ktrTop, Around.in1, Around.deeper]); omega)); (case h1 => (repeat (first | with_reducible assumption | with_reducible exact List.mem_cons_self .. | with_reducible refine List.mem_cons_of_mem _ ?_))); (case h2 => (repeat (first | with_reducible assumption | with_reducible exact List.mem_cons_self .. | with_reducible refine List.mem_cons_of_mem _ ?_))); (case hn => decide +kernel); (case ha => decide +kernel); (case miss => with_reducible first | exact fun _ _ _ _ _ => miss_put | exact fun _ _ _ _ _ => miss_top | exact fun _ _ _ _ _ => miss_take | exact fun _ _ _ _ _ => miss_two | exact fun _ _ _ _ _ => miss_add | exact fun _ _ _ _ _ => miss_turn | exact fun _ _ _ _ _ => miss_look | exact fun _ _ _ _ _ => miss_at | exact fun _ _ _ _ _ => miss_no | exact fun _ _ _ _ _ => miss_such)); intro h' tk' x' d' u1' u2' u3' F' N' l1 l2))
    | ((with_reducible show wpAny _ _ (getMethod (Value.ref _) _ _) _ _ _); with_reducible (k_here; k_dflt (refine' hookM ?B ?F ?X ?N ?T ?hk ?hd ?hu ?hn ?ha ?h1 ?h2 ?miss ?_; (case B => k_asm); (case F => k_asm); (case X => k_asm); (case N => k_asm); (case T => k_asm); (case hk => exact rfl); (case hd => ((try dsimp only [ktrTop, Around.in1, Around.deeper]); omega)); (case hu => ((try dsimp only [ktrTop, Around.in1, Around.deeper]); omega)); (case h1 => (repeat (first | with_reducible assumption | with_reducible exact List.mem_cons_self .. | with_reducible refine List.mem_cons_of_mem _ ?_))); (case h2 => (repeat (first | with_reducible assumption | with_reducible exact List.mem_cons_self .. | with_reducible refine List.mem_cons_of_mem _ ?_))); (case hn => decide +kernel); (case ha => decide +kernel); (case miss => with_reducible first | exact fun _ _ _ _ _ => miss_put | exact fun _ _ _ _ _ => miss_top | exact fun _ _ _ _ _ => miss_take | exact fun _ _ _ _ _ => miss_two | exact fun _ _ _ _ _ => miss_add | exact fun _ _ _ _ _ => miss_turn | exact fun _ _ _ _ _ => miss_look | exact fun _ _ _ _ _ => miss_at | exact fun _ _ _ _ _ => miss_no | exact fun _ _ _ _ _ => miss_such)); intro h' tk' x' d' u1' u2' u3' F' N' l1 l2))
    | (with_reducible ((with_reducible show FnAt _ _ ∧ _); refine' And.intro ?k1 ?_; (case k1 => refine' FnAt.of ?n0 ?n1; (case n0 => k_asm); (case n1 => (repeat (first | with_reducible assumption | with_reducible exact List.mem_cons_self .. | with_reducible refine List.mem_cons_of_mem _ ?_)))); (try dsimp only [List.nil_append, List.cons_append])))
    | ((with_reducible show wpAny _ _ (callWith _ (Value.ref _) _ _ _) _ _ _); with_reducible (k_here; (try dsimp only); k_dflt (refine' callWith_F ?k1 ?_; (case k1 => refine' FnAt.of ?n0 ?n1; (case n0 => k_asm); (case n1 => (repeat (first | with_reducible assumption | with_reducible exact List.mem_cons_self .. | with_reducible refine List.mem_cons_of_mem _ ?_)))); k_whole)))
    | (with_reducible (k_here; (with_reducible show wpAny _ _ (call (Value.ref _) [Value.str _ _, Value.ref _] _) _ _ _); (with_reducible rename Sends _ _ _ _ _ _ _ _ _ _ => hS); k_dflt (refine' hS _ _ _ ?P _ _ _ _ _ _ _ _ _ _ _ _ _ _ _ _ _ _ _ _ _ _ _ _ _ _ ?B ?F ?X ?N ?T ?hk ?hd ?hu ?hn ?hI ?U ?_ ?_; (case B => k_asm); (case F => k_asm); (case X => k_asm); (case N => k_asm); (case T => k_asm); (case hk => exact rfl); (case hd => ((try dsimp only [ktrTop, Around.in1, Around.deeper]); omega)); (case hu => ((try dsimp only [ktrTop, Around.in1, Around.deeper]); omega)); (case hn => (refine sub_cons ?_ ?_; (repeat (first | with_reducible assumption | with_reducible exact List.mem_cons_self .. | with_reducible refine List.mem_cons_of_mem _ ?_)); (repeat (first | assumption | refine sub_tail ?_)))); (case hI => assumption); (case U => k_updF); (case P => first | exact rfl | exact ⟨_, rfl⟩ | exact ⟨_, _, rfl⟩ | exact ⟨_, _, _, rfl⟩ | exact True.intro); skip); (try clear hS)))
    | (with_reducible (k_here; (with_reducible show wpAny _ _ (call (Value.ref _) _ _) _ _ _); k_dflt (refine wpAny_call ?_; refine' kco_code ?k1 ?k2 ?k3 ?k4 ?k5 ?k6 ?_; (case k1 => k_in); (case k2 => (refine' inst_N ?n0 ?n1 ?n2; (case n0 => k_asm); (case n1 => (repeat (first | with_reducible assumption | with_reducible exact List.mem_cons_self .. | with_reducible refine List.mem_cons_of_mem _ ?_))); (case n2 => (repeat (first | with_reducible assumption | with_reducible exact List.mem_cons_self .. | with_reducible refine List.mem_cons_of_mem _ ?_))))); (case k3 => rfl); (case k4 => k_is); (case k5 => k_is); (case k6 => k_is); (try dsimp only); k_enter)))
    | ((with_reducible show wpAny _ _ (leaving _ (Value.ref _)) _ _ _); with_reducible (k_here; k_dflt (first | (refine' leave_madeP ?k1 (Heap.MadeExc.of (by assumption)) ?k2 ?k3 ?_ ?k6 ?k5; (case k6 => exact rfl); (case k2 => assumption); (case k1 => assumption); (case k3 => k_asm); (case k5 => exact rfl); k_whole; intro h' t' R' U'; (try dsimp only at U' ⊢)) | (refine' leave_indexP ?k1 ?k0 ?k2 ?k3 ?_ ?k6 ?k5; (case k6 => exact rfl); (case k0 => assumption); (case k2 => assumption); (case k1 => assumption); (case k3 => k_asm); (case k5 => exact rfl); k_whole; intro h' R' U'; (try dsimp only at U' ⊢)) | (refine' leave_faultP ?k1 ?k0 ?k2 ?k3 ?_ ?k6 ?k5; (case k6 => exact rfl); (case k0 => assumption); (case k2 => assumption); (case k1 => assumption); (case k3 => k_asm); (case k5 => exact rfl); k_whole; intro h' t' dx' t1' t2' R' U'; (try dsimp only at U' ⊢)) | (refine' leaveOnP rfl ?k0 ?k1 ?k2 ?k3 ?k4 ?_; (case k3 => assumption); (case k0 => exact XIs.still (by assumption)); (case k1 => assumption); (case k2 => assumption); (case k4 => assumption); k_whole; intro h' R' U'; (try dsimp only at U' ⊢)))))
    | walk1 | (dsimp only; walk1) | (leave1; (try dsimp only))))
  all_goals first
    | exact postE _ _ (by assumption) _ _ _ _ _ _ _ _ _ (by assumption) (by assumption) (by assumption) (by assumption) (raised_sub (by assumption) (sub_app (sub_app (by repeat (first | exact fun _ h => h | refine sub_tail ?_))))) (by assumption) (above_sub (by assumption) (by repeat (first | exact fun _ h => h | refine sub_tail ?_)))
    | exact post _ _ _ _ _ _ (by assumption) (by assumption) (by assumption) (news_sub (by assumption) (sub_app (by repeat (first | exact fun _ h => h | refine sub_tail ?_)))) (above_sub (by assumption) (by repeat (first | exact fun _ h => h | refine sub_tail ?_)))
theorem call_turn {w : World} {lH mA dA fS : Addr} {t1 t2 t3 tx : Tok} {x : Int} {ns ns' : List Int} {O : Rep} {nw : Led} {oc : Value} {od : Option Addr} {fd : FuncData} {sl : Array (Option Value)} (hst : x.fmod 7 = 4) (h1 : (mA, instObj 147 dA) ∈ nw) (h2 : (dA, methDict w t1 t2 t3 fS "s") ∈ nw) (h3 : (fS, (⟨oc, od, .func fd, sl⟩ : Obj)) ∈ nw)
    (hS : Sends w lH ns ns' O 5 nw fS "s.turn" fun its => ∃ ta, its = #[.int ((x.fdiv 7).fmod 10) ta]) : Does w lH ns ns' O 10 nw (.ref 165) [.ref mA, .int x tx] := by
  rw [show ("s.turn" : Str) = (Str.empty ++ "s" ++ "." ++ "turn") from by decide +kernel] at hS
  unfold Does
  w_top off
  k_fill
  intro dp un gd cn cs a ccd cl outer A₀ base h₀ L m s Q E p loose mean mg mb nw' g vs n B F X N T hk hd hu hn hI U postE post
  have g1 := hn _ h1
  have g2 := hn _ h2
  have g3 := hn _ h3
  have hL := updMem U
  refine wpAny_call ?_
  k_dflt cell_enter
  (repeat' (first
    | (k_unfold; (try dsimp only)) | (k_end; wrow_close)
    | (with_reducible (k_here; (with_reducible show wpAny _ _ (binaryOp Operator.Mod (Value.int _ _) (Value.int 7 _)) _ _ _); (with_reducible rename Int.fmod _ 7 = _ => h4); (with_reducible refine PyProof.Rows.mod_int (by decide) ?_); (simp only [h4])))
    | ((with_reducible show wpAny _ _ (getAttr (Value.ref _) _ _) _ _ _); with_reducible (k_here; k_dflt (first | (with_reducible refine' meth_send ?X ?N ?h1 ?h2 ?_; (case X => k_in); (case N => k_asm); (case h1 => (repeat (first | with_reducible assumption | with_reducible exact List.mem_cons_self .. | with_reducible refine List.mem_cons_of_mem _ ?_))); (case h2 => (repeat (first | with_reducible assumption | with_reducible exact List.mem_cons_self .. | with_reducible refine List.mem_cons_of_mem _ ?_)))) | (with_reducible refine' meth_name ?X ?N ?h1 ?h2 ?_; (case X => k_in); (case N => k_asm); (case h1 => (repeat (first | with_reducible assumption | with_reducible exact List.mem_cons_self .. | with_reducible refine List.mem_cons_of_mem _ ?_))); (case h2 => (repeat (first | with_reducible assumption | with_reducible exact List.mem_cons_self .. | with_reducible refine List.mem_cons_of_mem _ ?_)))))))
    | ((with_reducible show wpAny _ _ (getMethod (Value.ref _) _ _) _ _ _); with_reducible (k_here; k_dflt (with_reducible refine' meth_sendM ?X ?N ?h1 ?h2 ?_; (case X => k_in); (case N => k_asm); (case h1 => (repeat (first | with_reducible assumption | with_reducible exact List.mem_cons_self .. | with_reducible refine List.mem_cons_of_mem _ ?_))); (case h2 => (repeat (first | with_reducible assumption | with_reducible exact List.mem_cons_self .. | with_reducible refine List.mem_cons_of_mem _ ?_))))))
    | ((with_reducible show wpAny _ _ (getAttr (Value.ref _) _ _) _ _ _); with_reducible (k_here; k_dflt (refine' hookA ?B ?F ?X ?N ?T ?hk ?hd ?hu ?hn ?ha ?h1 ?h2 ?miss ?_; (case B => k_asm); (case F => k_asm); (case X => k_asm); (case N => k_asm); (case T => k_asm); (case hk => exact rfl); (case hd => ((try dsimp only [ktrTop, Around.in1, Around.deeper]); omega)); (case hu => ((try dsimp only [ktrTop, Around.in1, Around.deeper]); omega)); (case h1 => (repeat (first | with_reducible assumption | with_reducible exact List.mem_cons_self .. | with_reducible refine List.mem_cons_of_mem _ ?_))); (case h2 => (repeat (first | with_reducible assumption | with_reducible exact List.mem_cons_self .. | with_reducible refine List.mem_cons_of_mem _ ?_))); (case hn => decide +kernel); (case ha => decide +kernel); (case miss => with_reducible first | exact fun _ _ _ _ _ => miss_put | exact fun _ _ _ _ _ => miss_top | exact fun _ _ _ _ _ => miss_take | exact fun _ _ _ _ _ => miss_two | exact fun _ _ _ _ _ => miss_add | exact fun _ _ _ _ _ => miss_turn | exact fun _ _ _ _ _ => miss_look | exact fun _ _ _ _ _ => miss_at | exact fun _ _ _ _ _ => miss_no | exact fun _ _ _ _ _ => miss_such)); intro h' tk' x' d' u1' u2' u3' F' N' l1 l2))
    | ((with_reducible show wpAny _ _ (getMethod (Value.ref _) _ _) _ _ _); with_reducible (k_here; k_dflt (refine' hookM ?B ?F ?X ?N ?T ?hk ?hd ?hu ?hn ?ha ?h1 ?h2 ?miss ?_; (case B => k_asm); (case F => k_asm); (case X => k_asm); (case N => k_asm); (case T => k_asm); (case hk => exact rfl); (case hd => ((try dsimp only [ktrTop, Around.in1, Around.deeper]); omega)); (case hu => ((try dsimp only [ktrTop, Around.in1, Around.deeper]); omega)); (case h1 => (repeat (first | with_reducible assumption | with_reducible exact List.mem_cons_self .. | with_reducible refine List.mem_cons_of_mem _ ?_))); (case h2 => (repeat (first | with_reducible assumption | with_reducible exact List.mem_cons_self .. | with_reducible refine List.mem_cons_of_mem _ ?_))); (case hn => decide +kernel); (case ha => decide +kernel); (case miss => with_reducible first | exact fun _ _ _ _ _ => miss_put | exact fun _ _ _ _ _ => miss_top | exact fun _ _ _ _ _ => miss_take | exact fun _ _ _ _ _ => miss_two | exact fun _ _ _ _ _ => miss_add | exact fun _ _ _ _ _ => miss_turn | exact fun _ _ _ _ _ => miss_look | exact fun _ _ _ _ _ => miss_at | exact fun _ _ _ _ _ => miss_no | exact fun _ _ _ _ _ => miss_such)); intro h' tk' x' d' u1' u2' u3' F' N' l1 l2))
    | (with_reducible ((with_reducible show FnAt _ _ ∧ _); refine' And.intro ?k1 ?_; (case k1 => refine' FnAt.of ?n0 ?n1; (case n0 => k_asm); (case n1 => (repeat (first | with_reducible assumption | with_reducible exact List.mem_cons_self .. | with_reducible refine List.mem_cons_of_mem _ ?_)))); (try dsimp only [List.nil_append, List.cons_append])))
    | ((with_reducible show wpAny _ _ (callWith _ (Value.ref _) _ _ _) _ _ _); with_reducible (k_here; (try dsimp only); k_dflt (refine' callWith_F ?k1 ?_; (case k1 => refine' FnAt.of ?n0 ?n1; (case n0 => k_asm); (case n1 => (repeat (first | with_reducible assumption | with_reducible exact List.mem_cons_self .. | with_reducible refine List.mem_cons_of_mem _ ?_)))); k_whole)))
    | (with_reducible (k_here; (with_reducible show wpAny _ _ (call (Value.ref _) [Value.str _ _, Value.ref _] _) _ _ _); (with_reducible rename Sends _ _ _ _ _ _ _ _ _ _ => hS); k_dflt (refine' hS _ _ _ ?P _ _ _ _ _ _ _ _ _ _ _ _ _ _ _ _ _ _ _ _ _ _ _ _ _ _ ?B ?F ?X ?N ?T ?hk ?hd ?hu ?hn ?hI ?U ?_ ?_; (case B => k_asm); (case F => k_asm); (case X => k_asm); (case N => k_asm); (case T => k_asm); (case hk => exact rfl); (case hd => ((try dsimp only [ktrTop, Around.in1, Around.deeper]); omega)); (case hu => ((try dsimp only [ktrTop, Around.in1, Around.deeper]); omega)); (case hn => (refine sub_cons ?_ ?_; (repeat (first | with_reducible assumption | with_reducible exact List.mem_cons_self .. | with_reducible refine List.mem_cons_of_mem _ ?_)); (repeat (first | assumption | refine sub_tail ?_)))); (case hI => assumption); (case U => k_updF); (case P => first | exact rfl | exact ⟨_, rfl⟩ | exact ⟨_, _, rfl⟩ | exact ⟨_, _, _, rfl⟩ | exact True.intro); skip); (try clear hS)))
    | (with_reducible (k_here; (with_reducible show wpAny _ _ (call (Value.ref _) _ _) _ _ _); k_dflt (refine wpAny_call ?_; refine' kco_code ?k1 ?k2 ?k3 ?k4 ?k5 ?k6 ?_; (case k1 => k_in); (case k2 => (refine' inst_N ?n0 ?n1 ?n2; (case n0 => k_asm); (case n1 => (repeat (first | with_reducible assumption | with_reducible exact List.mem_cons_self .. | with_reducible refine List.mem_cons_of_mem _ ?_))); (case n2 => (repeat (first | with_reducible assumption | with_reducible exact List.mem_cons_self .. | with_reducible refine List.mem_cons_of_mem _ ?_))))); (case k3 => rfl); (case k4 => k_is); (case k5 => k_is); (case k6 => k_is); (try dsimp only); k_enter)))
    | ((with_reducible show wpAny _ _ (leaving _ (Value.ref _)) _ _ _); with_reducible (k_here; k_dflt (first | (refine' leave_madeP ?k1 (Heap.MadeExc.of (by assumption)) ?k2 ?k3 ?_ ?k6 ?k5; (case k6 => exact rfl); (case k2 => assumption); (case k1 => assumption); (case k3 => k_asm); (case k5 => exact rfl); k_whole; intro h' t' R' U'; (try dsimp only at U' ⊢)) | (refine' leave_indexP ?k1 ?k0 ?k2 ?k3 ?_ ?k6 ?k5; (case k6 => exact rfl); (case k0 => assumption); (case k2 => assumption); (case k1 => assumption); (case k3 => k_asm); (case k5 => exact rfl); k_whole; intro h' R' U'; (try dsimp only at U' ⊢)) | (refine' leave_faultP ?k1 ?k0 ?k2 ?k3 ?_ ?k6 ?k5; (case k6 => exact rfl); (case k0 => assumption); (case k2 => assumption); (case k1 => assumption); (case k3 => k_asm); (case k5 => exact rfl); k_whole; intro h' t' dx' t1' t2' R' U'; (try dsimp only at U' ⊢)) | (refine' leaveOnP rfl ?k0 ?k1 ?k2 ?k3 ?k4 ?_; (case k3 => assumption); (case k0 => exact XIs.still (by assumption)); (case k1 => assumption); (case k2 => assumption); (case k4 => assumption); k_whole; intro h' R' U'; (try dsimp only at U' ⊢)))))
    | walk1 | (dsimp only; walk1) | (leave1; (try dsimp only))))
  all_goals first
    | exact postE _ _ (by assumption) _ _ _ _ _ _ _ _ _ (by assumption) (by assumption) (by assumption) (by assumption) (raised_sub (by assumption) (sub_app (sub_app (by repeat (first | exact fun _ h => h | refine sub_tail ?_))))) (by assumption) (above_sub (by assumption) (by repeat (first | exact fun _ h => h | refine sub_tail ?_)))
    | exact post _ _ _ _ _ _ (by assumption) (by assumption) (by assumption) (news_sub (by assumption) (sub_app (by repeat (first | exact fun _ h => h | refine sub_tail ?_)))) (above_sub (by assumption) (by repeat (first | exact fun _ h => h | refine sub_tail ?_)))
theorem call_look {w : World} {lH mA dA fS : Addr} {t1 t2 t3 tx : Tok} {x : Int} {ns ns' : List Int} {O : Rep} {nw : Led} {oc : Value} {od : Option Addr} {fd : FuncData} {sl : Array (Option Value)} (hst : x.fmod 7 = 5) (h1 : (mA, instObj 147 dA) ∈ nw) (h2 : (dA, methDict w t1 t2 t3 fS "s") ∈ nw) (h3 : (fS, (⟨oc, od, .func fd, sl⟩ : Obj)) ∈ nw)
    (hS : Sends w lH ns ns' O 5 nw fS "s.look.at" fun its => ∃ ta tb, its = #[.int ((x.fdiv 7).fmod 6) ta, .str "please" tb]) : Does w lH ns ns' O 10 nw (.ref 165) [.ref mA, .int x tx] := by
  rw [show ("s.look.at" : Str) = (Str.empty ++ (Str.empty ++ "s" ++ "." ++ "look") ++ "." ++ "at") from by decide +kernel] at hS
  unfold Does
  w_top off
  k_fill
  intro dp un gd cn cs a ccd cl outer A₀ base h₀ L m s Q E p loose mean mg mb nw' g vs n B F X N T hk hd hu hn hI U postE post
  have g1 := hn _ h1
  have g2 := hn _ h2
  have g3 := hn _ h3
  have hL := updMem U
  refine wpAny_call ?_
  k_dflt cell_enter
  (repeat' (first
    | (k_unfold; (try dsimp only)) | (k_end; wrow_close)
    | (with_reducible (k_here; (with_reducible show wpAny _ _ (binaryOp Operator.Mod (Value.int _ _) (Value.int 7 _)) _ _ _); (with_reducible rename Int.fmod _ 7 = _ => h4); (with_reducible refine PyProof.Rows.mod_int (by decide) ?_); (simp only [h4])))
    | ((with_reducible show wpAny _ _ (getAttr (Value.ref _) _ _) _ _ _); with_reducible (k_here; k_dflt (first | (with_reducible refine' meth_send ?X ?N ?h1 ?h2 ?_; (case X => k_in); (case N => k_asm); (case h1 => (repeat (first | with_reducible assumption | with_reducible exact List.mem_cons_self .. | with_reducible refine List.mem_cons_of_mem _ ?_))); (case h2 => (repeat (first | with_reducible assumption | with_reducible exact List.mem_cons_self .. | with_reducible refine List.mem_cons_of_mem _ ?_)))) | (with_reducible refine' meth_name ?X ?N ?h1 ?h2 ?_; (case X => k_in); (case N => k_asm); (case h1 => (repeat (first | with_reducible assumption | with_reducible exact List.mem_cons_self .. | with_reducible refine List.mem_cons_of_mem _ ?_))); (case h2 => (repeat (first | with_reducible assumption | with_reducible exact List.mem_cons_self .. | with_reducible refine List.mem_cons_of_mem _ ?_)))))))
    | ((with_reducible show wpAny _ _ (getMethod (Value.ref _) _ _) _ _ _); with_reducible (k_here; k_dflt (with_reducible refine' meth_sendM ?X ?N ?h1 ?h2 ?_; (case X => k_in); (case N => k_asm); (case h1 => (repeat (first | with_reducible assumption | with_reducible exact List.mem_cons_self .. | with_reducible refine List.mem_cons_of_mem _ ?_))); (case h2 => (repeat (first | with_reducible assumption | with_reducible exact List.mem_cons_self .. | with_reducible refine List.mem_cons_of_mem _ ?_))))))
    | ((with_reducible show wpAny _ _ (getAttr (Value.ref _) _ _) _ _ _); with_reducible (k_here; k_dflt (refine' hookA ?B ?F ?X ?N ?T ?hk ?hd ?hu ?hn ?ha ?h1 ?h2 ?miss ?_; (case B => k_asm); (case F => k_asm); (case X => k_asm); (case N => k_asm); (case T => k_asm); (case hk => exact rfl); (case hd => ((try dsimp only [ktrTop, Around.in1, Around.deeper]); omega)); (case hu => ((try dsimp only [ktrTop, Around.in1, Around.deeper]); omega)); (case h1 => (repeat (first | with_reducible assumption | with_reducible exact List.mem_cons_self .. | with_reducible refine List.mem_cons_of_mem _ ?_))); (case h2 => (repeat (first | with_reducible assumption | with_reducible exact List.mem_cons_self .. | with_reducible refine List.mem_cons_of_mem _ ?_))); (case hn => decide +kernel); (case ha => decide +kernel); (case miss => with_reducible first | exact fun _ _ _ _ _ => miss_put | exact fun _ _ _ _ _ => miss_top | exact fun _ _ _ _ _ => miss_take | exact fun _ _ _ _ _ => miss_two | exact fun _ _ _ _ _ => miss_add | exact fun _ _ _ _ _ => miss_turn | exact fun _ _ _ _ _ => miss_look | exact fun _ _ _ _ _ => miss_at | exact fun _ _ _ _ _ => miss_no | exact fun _ _ _ _ _ => miss_such)); intro h' tk' x' d' u1' u2' u3' F' N' l1 l2))
    | ((with_reducible show wpAny _ _ (getMethod (Value.ref _) _ _) _ _ _); with_reducible (k_here; k_dflt (refine' hookM ?B ?F ?X ?N ?T ?hk ?hd ?hu ?hn ?ha ?h1 ?h2 ?miss ?_; (case B => k_asm); (case F => k_asm); (case X => k_asm); (case N => k_asm); (case T => k_asm); (case hk => exact rfl); (case hd => ((try dsimp only [ktrTop, Around.in1, Around.deeper]); omega)); (case hu => ((try dsimp only [ktrTop, Around.in1, Around.deeper]); omega)); (case h1 => (repeat (first | with_reducible assumption | with_reducible exact List.mem_cons_self .. | with_reducible refine List.mem_cons_of_mem _ ?_))); (case h2 => (repeat (first | with_reducible assumption | with_reducible exact List.mem_cons_self .. | with_reducible refine List.mem_cons_of_mem _ ?_))); (case hn => decide +kernel); (case ha => decide +kernel); (case miss => with_reducible first | exact fun _ _ _ _ _ => miss_put | exact fun _ _ _ _ _ => miss_top | exact fun _ _ _ _ _ => miss_take | exact fun _ _ _ _ _ => miss_two | exact fun _ _ _ _ _ => miss_add | exact fun _ _ _ _ _ => miss_turn | exact fun _ _ _ _ _ => miss_look | exact fun _ _ _ _ _ => miss_at | exact fun _ _ _ _ _ => miss_no | exact fun _ _ _ _ _ => miss_such)); intro h' tk' x' d' u1' u2' u3' F' N' l1 l2))
    | (with_reducible ((with_reducible show FnAt _ _ ∧ _); refine' And.intro ?k1 ?_; (case k1 => refine' FnAt.of ?n0 ?n1; (case n0 => k_asm); (case n1 => (repeat (first | with_reducible assumption | with_reducible exact List.mem_cons_self .. | with_reducible refine List.mem_cons_of_mem _ ?_)))); (try dsimp only [List.nil_append, List.cons_append])))
    | ((with_reducible show wpAny _ _ (callWith _ (Value.ref _) _ _ _) _ _ _); with_reducible (k_here; (try dsimp only); k_dflt (refine' callWith_F ?k1 ?_; (case k1 => refine' FnAt.of ?n0 ?n1; (case n0 => k_asm); (case n1 => (repeat (first | with_reducible assumption | with_reducible exact List.mem_cons_self .. | with_reducible refine List.mem_cons_of_mem _ ?_)))); k_whole)))
    | (with_reducible (k_here; (with_reducible show wpAny _ _ (call (Value.ref _) [Value.str _ _, Value.ref _] _) _ _ _); (with_reducible rename Sends _ _ _ _ _ _ _ _ _ _ => hS); k_dflt (refine' hS _ _ _ ?P _ _ _ _ _ _ _ _ _ _ _ _ _ _ _ _ _ _ _ _ _ _ _ _ _ _ ?B ?F ?X ?N ?T ?hk ?hd ?hu ?hn ?hI ?U ?_ ?_; (case B => k_asm); (case F => k_asm); (case X => k_asm); (case N => k_asm); (case T => k_asm); (case hk => exact rfl); (case hd => ((try dsimp only [ktrTop, Around.in1, Around.deeper]); omega)); (case hu => ((try dsimp only [ktrTop, Around.in1, Around.deeper]); omega)); (case hn => (refine sub_cons ?_ ?_; (repeat (first | with_reducible assumption | with_reducible exact List.mem_cons_self .. | with_reducible refine List.mem_cons_of_mem _ ?_)); (repeat (first | assumption | refine sub_tail ?_)))); (case hI => assumption); (case U => k_updF); (case P => first | exact rfl | exact ⟨_, rfl⟩ | exact ⟨_, _, rfl⟩ | exact ⟨_, _, _, rfl⟩ | exact True.intro); skip); (try clear hS)))
    | (with_reducible (k_here; (with_reducible show wpAny _ _ (call (Value.ref _) _ _) _ _ _); k_dflt (refine wpAny_call ?_; refine' kco_code ?k1 ?k2 ?k3 ?k4 ?k5 ?k6 ?_; (case k1 => k_in); (case k2 => (refine' inst_N ?n0 ?n1 ?n2; (case n0 => k_asm); (case n1 => (repeat (first | with_reducible assumption | with_reducible exact List.mem_cons_self .. | with_reducible refine List.mem_cons_of_mem _ ?_))); (case n2 => (repeat (first | with_reducible assumption | with_reducible exact List.mem_cons_self .. | with_reducible refine List.mem_cons_of_mem _ ?_))))); (case k3 => rfl); (case k4 => k_is); (case k5 => k_is); (case k6 => k_is); (try dsimp only); k_enter)))
    | ((with_reducible show wpAny _ _ (leaving _ (Value.ref _)) _ _ _); with_reducible (k_here; k_dflt (first | (refine' leave_madeP ?k1 (Heap.MadeExc.of (by assumption)) ?k2 ?k3 ?_ ?k6 ?k5; (case k6 => exact rfl); (case k2 => assumption); (case k1 => assumption); (case k3 => k_asm); (case k5 => exact rfl); k_whole; intro h' t' R' U'; (try dsimp only at U' ⊢)) | (refine' leave_indexP ?k1 ?k0 ?k2 ?k3 ?_ ?k6 ?k5; (case k6 => exact rfl); (case k0 => assumption); (case k2 => assumption); (case k1 => assumption); (case k3 => k_asm); (case k5 => exact rfl); k_whole; intro h' R' U'; (try dsimp only at U' ⊢)) | (refine' leave_faultP ?k1 ?k0 ?k2 ?k3 ?_ ?k6 ?k5; (case k6 => exact rfl); (case k0 => assumption); (case k2 => assumption); (case k1 => assumption); (case k3 => k_asm); (case k5 => exact rfl); k_whole; intro h' t' dx' t1' t2' R' U'; (try dsimp only at U' ⊢)) | (refine' leaveOnP rfl ?k0 ?k1 ?k2 ?k3 ?k4 ?_; (case k3 => assumption); (case k0 => exact XIs.still (by assumption)); (case k1 => assumption); (case k2 => assumption); (case k4 => assumption); k_whole; intro h' R' U'; (try dsimp only at U' ⊢)))))
    | walk1 | (dsimp only; walk1) | (leave1; (try dsimp only))))
  all_goals first
    | exact postE _ _ (by assumption) _ _ _ _ _ _ _ _ _ (by assumption) (by assumption) (by assumption) (by assumption) (raised_sub (by assumption) (sub_app (sub_app (by repeat (first | exact fun _ h => h | refine sub_tail ?_))))) (by assumption) (above_sub (by assumption) (by repeat (first | exact fun _ h => h | refine sub_tail ?_)))
    | exact post _ _ _ _ _ _ (by assumption) (by assumption) (by assumption) (news_sub (by assumption) (sub_app (by repeat (first | exact fun _ h => h | refine sub_tail ?_)))) (above_sub (by assumption) (by repeat (first | exact fun _ h => h | refine sub_tail ?_)))
theorem call_other {w : World} {lH mA dA fS : Addr} {t1 t2 t3 tx : Tok} {x : Int} {ns ns' : List Int} {O : Rep} {nw : Led} {oc : Value} {od : Option Addr} {fd : FuncData} {sl : Array (Option Value)} (hst : x.fmod 7 = 6) (h1 : (mA, instObj 147 dA) ∈ nw) (h2 : (dA, methDict w t1 t2 t3 fS "s") ∈ nw) (h3 : (fS, (⟨oc, od, .func fd, sl⟩ : Obj)) ∈ nw)
    (hS : Sends w lH ns ns' O 5 nw fS "s._no.such" fun _ => True) : Does w lH ns ns' O 10 nw (.ref 165) [.ref mA, .int x tx] := by
  rw [show ("s._no.such" : Str) = (Str.empty ++ (Str.empty ++ "s" ++ "." ++ "_no") ++ "." ++ "such") from by decide +kernel] at hS
  unfold Does
  w_top off
  k_fill
  intro dp un gd cn cs a ccd cl outer A₀ base h₀ L m s Q E p loose mean mg mb nw' g vs n B F X N T hk hd hu hn hI U postE post
  have g1 := hn _ h1
  have g2 := hn _ h2
  have g3 := hn _ h3
  have hL := updMem U
  refine wpAny_call ?_
  k_dflt cell_enter
  (repeat' (first
    | (k_unfold; (try dsimp only)) | (k_end; wrow_close)
    | (with_reducible (k_here; (with_reducible show wpAny _ _ (binaryOp Operator.Mod (Value.int _ _) (Value.int 7 _)) _ _ _); (with_reducible rename Int.fmod _ 7 = _ => h4); (with_reducible refine PyProof.Rows.mod_int (by decide) ?_); (simp only [h4])))
    | ((with_reducible show wpAny _ _ (getAttr (Value.ref _) _ _) _ _ _); with_reducible (k_here; k_dflt (first | (with_reducible refine' meth_send ?X ?N ?h1 ?h2 ?_; (case X => k_in); (case N => k_asm); (case h1 => (repeat (first | with_reducible assumption | with_reducible exact List.mem_cons_self .. | with_reducible refine List.mem_cons_of_mem _ ?_))); (case h2 => (repeat (first | with_reducible assumption | with_reducible exact List.mem_cons_self .. | with_reducible refine List.mem_cons_of_mem _ ?_)))) | (with_reducible refine' meth_name ?X ?N ?h1 ?h2 ?_; (case X => k_in); (case N => k_asm); (case h1 => (repeat (first | with_reducible assumption | with_reducible exact List.mem_cons_self .. | with_reducible refine List.mem_cons_of_mem _ ?_))); (case h2 => (repeat (first | with_reducible assumption | with_reducible exact List.mem_cons_self .. | with_reducible refine List.mem_cons_of_mem _ ?_)))))))
    | ((with_reducible show wpAny _ _ (getMethod (Value.ref _) _ _) _ _ _); with_reducible (k_here; k_dflt (with_reducible refine' meth_sendM ?X ?N ?h1 ?h2 ?_; (case X => k_in); (case N => k_asm); (case h1 => (repeat (first | with_reducible assumption | with_reducible exact List.mem_cons_self .. | with_reducible refine List.mem_cons_of_mem _ ?_))); (case h2 => (repeat (first | with_reducible assumption | with_reducible exact List.mem_cons_self .. | with_reducible refine List.mem_cons_of_mem _ ?_))))))
    | ((with_reducible show wpAny _ _ (getAttr (Value.ref _) _ _) _ _ _); with_reducible (k_here; k_dflt (refine' hookA ?B ?F ?X ?N ?T ?hk ?hd ?hu ?hn ?ha ?h1 ?h2 ?miss ?_; (case B => k_asm); (case F => k_asm); (case X => k_asm); (case N => k_asm); (case T => k_asm); (case hk => exact rfl); (case hd => ((try dsimp only [ktrTop, Around.in1, Around.deeper]); omega)); (case hu => ((try dsimp only [ktrTop, Around.in1, Around.deeper]); omega)); (case h1 => (repeat (first | with_reducible assumption | with_reducible exact List.mem_cons_self .. | with_reducible refine List.mem_cons_of_mem _ ?_))); (case h2 => (repeat (first | with_reducible assumption | with_reducible exact List.mem_cons_self .. | with_reducible refine List.mem_cons_of_mem _ ?_))); (case hn => decide +kernel); (case ha => decide +kernel); (case miss => with_reducible first | exact fun _ _ _ _ _ => miss_put | exact fun _ _ _ _ _ => miss_top | exact fun _ _ _ _ _ => miss_take | exact fun _ _ _ _ _ => miss_two | exact fun _ _ _ _ _ => miss_add | exact fun _ _ _ _ _ => miss_turn | exact fun _ _ _ _ _ => miss_look | exact fun _ _ _ _ _ => miss_at | exact fun _ _ _ _ _ => miss_no | exact fun _ _ _ _ _ => miss_such)); intro h' tk' x' d' u1' u2' u3' F' N' l1 l2))
    | ((with_reducible show wpAny _ _ (getMethod (Value.ref _) _ _) _ _ _); with_reducible (k_here; k_dflt (refine' hookM ?B ?F ?X ?N ?T ?hk ?hd ?hu ?hn ?ha ?h1 ?h2 ?miss ?_; (case B => k_asm); (case F => k_asm); (case X => k_asm); (case N => k_asm); (case T => k_asm); (case hk => exact rfl); (case hd => ((try dsimp only [ktrTop, Around.in1, Around.deeper]); omega)); (case hu => ((try dsimp only [ktrTop, Around.in1, Around.deeper]); omega)); (case h1 => (repeat (first | with_reducible assumption | with_reducible exact List.mem_cons_self .. | with_reducible refine List.mem_cons_of_mem _ ?_))); (case h2 => (repeat (first | with_reducible assumption | with_reducible exact List.mem_cons_self .. | with_reducible refine List.mem_cons_of_mem _ ?_))); (case hn => decide +kernel); (case ha => decide +kernel); (case miss => with_reducible first | exact fun _ _ _ _ _ => miss_put | exact fun _ _ _ _ _ => miss_top | exact fun _ _ _ _ _ => miss_take | exact fun _ _ _ _ _ => miss_two | exact fun _ _ _ _ _ => miss_add | exact fun _ _ _ _ _ => miss_turn | exact fun _ _ _ _ _ => miss_look | exact fun _ _ _ _ _ => miss_at | exact fun _ _ _ _ _ => miss_no | exact fun _ _ _ _ _ => miss_such)); intro h' tk' x' d' u1' u2' u3' F' N' l1 l2))
    | (with_reducible ((with_reducible show FnAt _ _ ∧ _); refine' And.intro ?k1 ?_; (case k1 => refine' FnAt.of ?n0 ?n1; (case n0 => k_asm); (case n1 => (repeat (first | with_reducible assumption | with_reducible exact List.mem_cons_self .. | with_reducible refine List.mem_cons_of_mem _ ?_)))); (try dsimp only [List.nil_append, List.cons_append])))
    | ((with_reducible show wpAny _ _ (callWith _ (Value.ref _) _ _ _) _ _ _); with_reducible (k_here; (try dsimp only); k_dflt (refine' callWith_F ?k1 ?_; (case k1 => refine' FnAt.of ?n0 ?n1; (case n0 => k_asm); (case n1 => (repeat (first | with_reducible assumption | with_reducible exact List.mem_cons_self .. | with_reducible refine List.mem_cons_of_mem _ ?_)))); k_whole)))
    | (with_reducible (k_here; (with_reducible show wpAny _ _ (call (Value.ref _) [Value.str _ _, Value.ref _] _) _ _ _); (with_reducible rename Sends _ _ _ _ _ _ _ _ _ _ => hS); k_dflt (refine' hS _ _ _ ?P _ _ _ _ _ _ _ _ _ _ _ _ _ _ _ _ _ _ _ _ _ _ _ _ _ _ ?B ?F ?X ?N ?T ?hk ?hd ?hu ?hn ?hI ?U ?_ ?_; (case B => k_asm); (case F => k_asm); (case X => k_asm); (case N => k_asm); (case T => k_asm); (case hk => exact rfl); (case hd => ((try dsimp only [ktrTop, Around.in1, Around.deeper]); omega)); (case hu => ((try dsimp only [ktrTop, Around.in1, Around.deeper]); omega)); (case hn => (refine sub_cons ?_ ?_; (repeat (first | with_reducible assumption | with_reducible exact List.mem_cons_self .. | with_reducible refine List.mem_cons_of_mem _ ?_)); (repeat (first | assumption | refine sub_tail ?_)))); (case hI => assumption); (case U => k_updF); (case P => first | exact rfl | exact ⟨_, rfl⟩ | exact ⟨_, _, rfl⟩ | exact ⟨_, _, _, rfl⟩ | exact True.intro); skip); (try clear hS)))
    | (with_reducible (k_here; (with_reducible show wpAny _ _ (call (Value.ref _) _ _) _ _ _); k_dflt (refine wpAny_call ?_; refine' kco_code ?k1 ?k2 ?k3 ?k4 ?k5 ?k6 ?_; (case k1 => k_in); (case k2 => (refine' inst_N ?n0 ?n1 ?n2; (case n0 => k_asm); (case n1 => (repeat (first | with_reducible assumption | with_reducible exact List.mem_cons_self .. | with_reducible refine List.mem_cons_of_mem _ ?_))); (case n2 => (repeat (first | with_reducible assumption | with_reducible exact List.mem_cons_self .. | with_reducible refine List.mem_cons_of_mem _ ?_))))); (case k3 => rfl); (case k4 => k_is); (case k5 => k_is); (case k6 => k_is); (try dsimp only); k_enter)))
    | ((with_reducible show wpAny _ _ (leaving _ (Value.ref _)) _ _ _); with_reducible (k_here; k_dflt (first | (refine' leave_madeP ?k1 (Heap.MadeExc.of (by assumption)) ?k2 ?k3 ?_ ?k6 ?k5; (case k6 => exact rfl); (case k2 => assumption); (case k1 => assumption); (case k3 => k_asm); (case k5 => exact rfl); k_whole; intro h' t' R' U'; (try dsimp only at U' ⊢)) | (refine' leave_indexP ?k1 ?k0 ?k2 ?k3 ?_ ?k6 ?k5; (case k6 => exact rfl); (case k0 => assumption); (case k2 => assumption); (case k1 => assumption); (case k3 => k_asm); (case k5 => exact rfl); k_whole; intro h' R' U'; (try dsimp only at U' ⊢)) | (refine' leave_faultP ?k1 ?k0 ?k2 ?k3 ?_ ?k6 ?k5; (case k6 => exact rfl); (case k0 => assumption); (case k2 => assumption); (case k1 => assumption); (case k3 => k_asm); (case k5 => exact rfl); k_whole; intro h' t' dx' t1' t2' R' U'; (try dsimp only at U' ⊢)) | (refine' leaveOnP rfl ?k0 ?k1 ?k2 ?k3 ?k4 ?_; (case k3 => assumption); (case k0 => exact XIs.still (by assumption)); (case k1 => assumption); (case k2 => assumption); (case k4 => assumption); k_whole; intro h' R' U'; (try dsimp only at U' ⊢)))))
    | walk1 | (dsimp only; walk1) | (leave1; (try dsimp only))))
  all_goals first
    | exact postE _ _ (by assumption) _ _ _ _ _ _ _ _ _ (by assumption) (by assumption) (by assumption) (by assumption) (raised_sub (by assumption) (sub_app (sub_app (by repeat (first | exact fun _ h => h | refine sub_tail ?_))))) (by assumption) (above_sub (by assumption) (by repeat (first | exact fun _ h => h | refine sub_tail ?_)))
    | exact post _ _ _ _ _ _ (by assumption) (by assumption) (by assumption) (news_sub (by assumption) (sub_app (by repeat (first | exact fun _ h => h | refine sub_tail ?_)))) (above_sub (by assumption) (by repeat (first | exact fun _ h => h | refine sub_tail ?_)))
end Mine
end
section
open PySem PySem.W PyProof.Rows PySem.Calls
set_option Elab.async false
set_option maxRecDepth 100000
set_option maxHeartbeats 8000000
namespace Mine
/-- a table of code objects: empty, or with the one code of the one lambda -/
inductive TabS (pos : Pos) (qual : Str) (led : Led) (ps : Array Value) : Prop
  | empty (h : ps = #[]) : TabS pos qual led ps
  | full (c' : Addr) (oc : Obj) (vs : Array Value) (t : Tok) (h : ps = #[rawInt pos.line, rawInt pos.col, .ref c']) (hm : (c', oc) ∈ led) (hd : oc.data = .fields vs) (hv : vs[1]? = some (.str qual t)) : TabS pos qual led ps
section
variable {M : Model} {A : Around} {E : Value → Shared → Prop} {s : Shared} {h₀ : Heap} {L a c P : Addr} {m mg mb : Str → Option Value} {cn : Str} {cs : Scope} {ccd : Value} {cl : List (Str × Addr)} {news : List (Addr × Obj)} {g : Obj → List (Addr × Obj)}
  {p : Program} {loose : List Str} {mean : ExcName → Option Value} {name qual : Str} {params : Arguments} {body : Expr} {scope : Scope} {ps : Array Value} {pos : Pos} {firstLine : Nat} {clos : List (Str × Addr)} {nt : Led}
theorem lam_any {Q : Value → Shared → Prop} (F : Fr h₀ L s.heap m) (N : News h₀ L s.heap news) (T : Top p loose mean mg mb h₀) (C : CodeHd h₀ c P) (hcd : ccd = .ref c) (U : UpdF P (tabObj ps) news g) (S : TabS pos qual nt ps) (hnt : ∀ q ∈ nt, q ∈ news) (hcl : closureFor scope (envX cn cs L a ccd cl) = pure clos)
    (h : ∀ f c' oc vs t ctv ps' ex h' tk, Fr h₀ L h' m → News h₀ L h' ((f, kla_obj name qual params body scope clos ((mg "__name__").getD .none) c' ctv) :: (ex ++ g (tabObj ps'))) → ps' = #[rawInt pos.line, rawInt pos.col, .ref c'] → (c', oc) ∈ ex ++ g (tabObj ps') →
      oc.data = .fields vs → vs[1]? = some (.str qual t) → (∀ q ∈ news, q.1 < f) → (∀ q ∈ ex, ∀ q' ∈ news, q'.1 < q.1) → ((c', oc) ∈ nt ∨ ∀ q ∈ news, q.1 < c') → Q (.ref f) { s with heap := h', toks := tk }) :
    wpAny M A (makeFunction name qual params (.expr body) scope (envX cn cs L a ccd cl) [] [] [] pos firstLine) Q E s := by
  cases S with
  | empty e =>
    subst e
    refine kla_nest F N T C hcd U True.intro rfl hcl fun f c' oc vs t ctv h' tk F' N' hd hv l1 l2 => ?_
    refine h f c' oc vs t ctv #[rawInt pos.line, rawInt pos.col, .ref c'] [(c', oc)] h' tk F' ?_ rfl (.head _) hd hv (fun q hq => Nat.lt_trans (l1 q hq) l2) (fun q hq q' hq' => by rw [List.mem_singleton.mp hq]; exact l1 q' hq') (.inr l1)
    simpa using N'
  | full c' oc vs t e hm hd hv =>
    have e1 : g (tabObj ps) = news := updSelf U
    refine kla_hit F N T C hcd (updMem U) ?_ (c' := c') ?_ hcl fun f ctv h' tk F' N' l1 => ?_
    · rw [e]; exact True.intro
    · rw [e]; simp [codeAmong, rawInt]
    · refine h f c' oc vs t ctv ps [] h' tk F' ?_ e ?_ hd hv l1 (fun q hq => nomatch hq) (.inl hm)
      · rw [e1]; exact N'
      · rw [e1]; exact hnt _ hm
end
end Mine
end
section
open PySem PySem.W PyProof.Rows PySem.Calls
set_option Elab.async false
set_option maxRecDepth 100000
set_option maxHeartbeats 8000000
namespace Mine
inductive Res (w : World) (nx : Led) : Rep → Value → Prop
  | val {O : Rep} (v : Value) (l : Addr) (h : VIs nx O v) (hl : (l, listOf #[v] 0) ∈ nx) : Res w nx O (.ref l)
  | fault {fc fs : FV} (c s : Value) (d : Addr) (o : Obj) (h1 : FIs nx fc c) (h2 : FIs nx fs s) (hd : (d == sysModules) = false) (ho : Obj.IsDictOf (s4 w) o [("faultCode", c), ("faultString", s)]) (hm : (d, o) ∈ nx) : Res w nx (.fault fc fs) (.ref d)
theorem tabMono {pos : Pos} {qual : Str} {l l' : Led} {ps : Array Value} (h : TabS pos qual l ps) (s : ∀ q ∈ l, q ∈ l') : TabS pos qual l' ps := by
  cases h with
  | empty e => exact .empty e
  | full c' oc vs t e hm hd hv => exact .full c' oc vs t e (s _ hm) hd hv
/-- the ledger without one address -/
noncomputable def drop1 (a : Addr) (l : Led) : Led := l.filter fun p => decide (p.1 ≠ a)
theorem drop1_mem {l : Led} {q : Addr × Obj} {a : Addr} : q ∈ drop1 a l ↔ q ∈ l ∧ q.1 ≠ a := by simp [drop1, List.mem_filter]
theorem drop2_mem {l : Led} {q : Addr × Obj} {a b : Addr} (h : q ∈ l) (h1 : q.1 ≠ a) (h2 : q.1 ≠ b) : q ∈ drop1 b (drop1 a l) := drop1_mem.mpr ⟨drop1_mem.mpr ⟨h, h1⟩, h2⟩
theorem ne_data {h₀ h : Heap} {L a b : Addr} {o o' : Obj} {l : Led} (N : News h₀ L h l) (h1 : (a, o) ∈ l) (h2 : (b, o') ∈ l) (hne : o.data ≠ o'.data) : a ≠ b := fun e => by
  have e1 := (N _ h1).1
  have e2 := (N _ h2).1
  dsimp only at e1 e2
  rw [e, e2] at e1
  exact hne (congrArg Obj.data (Option.some.inj e1)).symm
/-- the ledger ahead of a call of `_law_single`: the heap, the table of the lambda's code, the rest -/
def PreS (pos : Pos) (qual : Str) (P : Addr) (lH : Addr) (ns : List Int) (nw nt : Led) (nw' : Led) : Prop :=
  ∃ vs n ps rest, nw' = (lH, listOf vs.toArray n) :: (P, tabObj ps) :: rest ∧ (∀ q ∈ rest, q.1 ≠ lH) ∧ (∀ q ∈ rest, q.1 ≠ P) ∧ lH ≠ P ∧ IntsAre vs ns ∧ TabS pos qual nt ps ∧ (∀ q ∈ nt, q ∈ rest) ∧ (∀ q ∈ nw, q ∈ rest)
def OutS (w : World) (pos : Pos) (qual : Str) (P : Addr) (lH : Addr) (ns' : List Int) (O : Rep) (nt : Led) (nw' : Led) (v : Value) (nx : Led) : Prop :=
  ∃ vs' n' ps', (lH, listOf vs'.toArray n') ∈ nx ∧ IntsAre vs' ns' ∧ (P, tabObj ps') ∈ nx ∧ (∃ nt', TabS pos qual nt' ps' ∧ ∀ q ∈ nt', q ∈ nx ∧ (q ∈ nt ∨ ∀ q' ∈ nw', q'.1 < q.1)) ∧ (∀ q ∈ nw', q.1 ≠ lH → q.1 ≠ P → q ∈ nx) ∧ ∃ R, (∀ q ∈ R, q ∈ nx) ∧ (∀ q ∈ R, ∀ q' ∈ nw', q'.1 < q.1) ∧ Res w R O v
theorem updApp {d : Addr} {o : Obj} {ex l : Led} {g : Obj → Led} (h : ∀ q ∈ ex, q.1 ≠ d) (u : UpdF d o l g) : UpdF d o (ex ++ l) (fun o' => ex ++ g o') := by
  induction ex with
  | nil => exact u
  | cons p r ih => exact .tail (h p (.head _)) (ih fun q hq => h q (.tail _ hq))
/-- what lies on the ledger when the lambda is made -/
structure Pack (g' : Heap) (L' : Addr) (h2 : Heap) (lH P : Addr) (lo : Obj) (ps' : Array Value) (rest : Led) (f : Addr) (fo : Obj) (c' : Addr) (oc : Obj) (cells : Led) (led : Led) (G : Obj → Led) : Prop where
  N : News g' L' h2 led
  f : (f, fo) ∈ led
  c : (c', oc) ∈ led
  cells : ∀ q ∈ cells, q ∈ led
  U : UpdF lH lo led G
  cs : c' ≠ lH
  ps : (P, tabObj ps') ∈ led
  pH : P ≠ lH
  rest : ∀ q ∈ rest, q ∈ led
theorem pack {g' : Heap} {L' : Addr} {h2 : Heap} {lH P : Addr} {lo : Obj} {ps' : Array Value} {rest ex cells : Led} {f : Addr} {fo : Obj} {c' : Addr} {oc : Obj} {vs' : Array Value} (N : News g' L' h2 ((f, fo) :: (ex ++ (cells ++ (lH, lo) :: (P, tabObj ps') :: rest)))) (m1 : (c', oc) ∈ ex ++ (cells ++ (lH, lo) :: (P, tabObj ps') :: rest)) (hd : oc.data = .fields vs') (hlo : ∃ a n, lo = listOf a n)
    (n1 : f ≠ lH) (n2 : ∀ q ∈ ex, q.1 ≠ lH) (n3 : ∀ q ∈ cells, q.1 ≠ lH) (n4 : P ≠ lH) (n5 : ∀ q ∈ rest, q.1 ≠ lH) : ∃ led G, Pack g' L' h2 lH P lo ps' rest f fo c' oc cells led G := by
  refine ⟨_, _, N, .head _, .tail _ m1, fun q hq => .tail _ (List.mem_append_right _ (List.mem_append_left _ hq)), .tail n1 (updApp n2 (updApp n3 (.head fun q hq => ?_))), fun e => ?_, .tail _ (List.mem_append_right _ (List.mem_append_right _ (.tail _ (.head _)))), n4, fun q hq => .tail _ (List.mem_append_right _ (List.mem_append_right _ (.tail _ (.tail _ hq))))⟩
  · rcases List.mem_cons.mp hq with rfl | hq
    · exact n4
    · exact n5 q hq
  · obtain ⟨a, n, rfl⟩ := hlo
    have e1 := (N _ (.tail _ m1)).1
    have e2 := (N (lH, listOf a n) (.tail _ (List.mem_append_right _ (List.mem_append_right _ (.head _))))).1
    dsimp only at e1 e2
    rw [e, e2] at e1
    cases Option.some.inj e1
    cases hd
def VS (O : Rep) (ns' : List Int) (G : Obj → Led) : Led → Value → Led → Prop := fun l v nx => ∃ vs' n' ex, VIs ex O v ∧ IntsAre vs' ns' ∧ nx = ex ++ G (listOf vs'.toArray n') ∧ (∀ q ∈ ex, ∀ q' ∈ l, q'.1 < q.1)
def YS (O : Rep) : Led → XK → Led → Prop := fun l k nx => ∃ c fs vc vf more, O = .fault c fs ∧ FIs more c vc ∧ FIs more fs vf ∧ k = .fault vc vf ∧ nx = more ++ l ∧ (∀ q ∈ more, ∀ q' ∈ l, q'.1 < q.1)
theorem FIs.handed {nw : Led} {f : FV} {v : Value} (h : FIs nw f v) : handedIn v = true := by cases h <;> rfl
theorem ys_handed {O : Rep} (nw : Led) (c v : Value) (nx : Led) (h : YS O nw (.fault c v) nx) : handedIn c = true ∧ handedIn v = true := by
  obtain ⟨_, _, _, _, _, _, h1, h2, e, _, _⟩ := h
  cases e
  exact ⟨FIs.handed h1, FIs.handed h2⟩
theorem outS_of {w : World} {pos : Pos} {qual : Str} {g' : Heap} {L' : Addr} {h2 : Heap} {lH P : Addr} {vs : List Value} {n : Nat} {ps ps' : Array Value} {rest cells : Led} {f : Addr} {fo : Obj} {c' : Addr} {oc : Obj} {vs' : Array Value} {t' : Tok} {led : Led} {G : Obj → Led} {O : Rep} {ns ns' : List Int} {v : Value} {nx : Led}
    (K : Pack g' L' h2 lH P (listOf vs.toArray n) ps' rest f fo c' oc cells led G) (e1 : ps' = #[rawInt pos.line, rawInt pos.col, .ref c']) (d1 : oc.data = .fields vs') (d2 : vs'[1]? = some (.str qual t')) (hI : IntsAre vs ns) (hns : ∀ c fs, O = .fault c fs → ns' = ns) {nt : Led} (src : (c', oc) ∈ nt ∨ ∀ q' ∈ (lH, listOf vs.toArray n) :: (P, tabObj ps) :: rest, q'.1 < c')
    (R : Took w (VS O ns' G) (YS O) led v nx) : OutS w pos qual P lH ns' O nt ((lH, listOf vs.toArray n) :: (P, tabObj ps) :: rest) v nx := by
  have up : ∀ {a : Addr}, (∀ q' ∈ led, q'.1 < a) → ∀ q' ∈ (lH, listOf vs.toArray n) :: (P, tabObj ps) :: rest, q'.1 < a := fun h q' hq => by
    rcases List.mem_cons.mp hq with rfl | hq
    · exact h _ (updMem K.U)
    · rcases List.mem_cons.mp hq with rfl | hq
      · exact (show @LT.lt Nat _ P _ from h _ K.ps)
      · exact h _ (K.rest q' hq)
  cases R with
  | val v0 l nx0 hV fr =>
    obtain ⟨vs2, n2, ex2, hv, hi, rfl, ab⟩ := hV
    have inG : ∀ q ∈ led, q.1 ≠ lH → q ∈ (l, listOf #[v0] 0) :: (ex2 ++ G (listOf vs2.toArray n2)) := fun q hq hn => .tail _ (List.mem_append_right _ (updStay K.U q hq hn))
    refine ⟨vs2, n2, ps', .tail _ (List.mem_append_right _ (updMem (updAgain K.U))), hi, inG _ K.ps K.pH, ⟨[(c', oc)], .full c' oc vs' t' e1 (.head _) d1 d2, fun q hq => by rw [List.mem_singleton.mp hq]; exact ⟨inG _ K.c K.cs, src⟩⟩, fun q hq h1 h2 => ?_, (l, listOf #[v0] 0) :: ex2, fun q hq => ?_, fun q hq => ?_, .val v0 l (hv.mono fun q hq => .tail _ hq) (.head _)⟩
    · rcases List.mem_cons.mp hq with rfl | hq
      · exact absurd rfl h1
      · rcases List.mem_cons.mp hq with rfl | hq
        · exact absurd rfl h2
        · exact inG q (K.rest q hq) h1
    · rcases List.mem_cons.mp hq with rfl | hq
      · exact .head _
      · exact .tail _ (List.mem_append_left _ hq)
    · rcases List.mem_cons.mp hq with rfl | hq
      · exact up (updLt K.U fun p hp => fr p (List.mem_append_right _ hp))
      · exact up (ab q hq)
  | fault c s d o nx0 gb hY hd ho fr =>
    obtain ⟨fc, fs, vc, vf, more, rfl, f1, f2, ek, rfl, ab⟩ := hY
    cases ek
    obtain rfl := hns _ _ rfl
    have inG : ∀ q ∈ led, q ∈ (d, o) :: (gb ++ (more ++ led)) := fun q hq => .tail _ (List.mem_append_right _ (List.mem_append_right _ hq))
    refine ⟨vs, n, ps', inG _ (updMem K.U), hI, inG _ K.ps, ⟨[(c', oc)], .full c' oc vs' t' e1 (.head _) d1 d2, fun q hq => by rw [List.mem_singleton.mp hq]; exact ⟨inG _ K.c, src⟩⟩, fun q hq h1 h2 => ?_, (d, o) :: more, fun q hq => ?_, fun q hq => ?_, .fault _ _ d o (f1.mono fun q hq => .tail _ hq) (f2.mono fun q hq => .tail _ hq) hd ho (.head _)⟩
    · rcases List.mem_cons.mp hq with rfl | hq
      · exact absurd rfl h1
      · rcases List.mem_cons.mp hq with rfl | hq
        · exact absurd rfl h2
        · exact inG q (K.rest q hq)
    · rcases List.mem_cons.mp hq with rfl | hq
      · exact .head _
      · exact .tail _ (List.mem_append_right _ (List.mem_append_left _ hq))
    · rcases List.mem_cons.mp hq with rfl | hq
      · exact up fun q' hq' => fr q' (List.mem_append_right _ (List.mem_append_right _ hq'))
      · exact up (ab q hq)
  | index t nx0 gb hY =>
    obtain ⟨_, _, _, _, _, _, _, _, ek, _, _⟩ := hY
    cases ek
  | value t tk nx0 gb hY ht =>
    obtain ⟨_, _, _, _, _, _, _, _, ek, _, _⟩ := hY
    cases ek
def Hide (P : Prop) : Prop := P
theorem unhide {P : Prop} (h : Hide P) : P := h
noncomputable abbrev pos1 : Pos := ⟨105, 22, 105, 45⟩
noncomputable abbrev qual1 : Str := "_law_single" ++ ".<locals>." ++ "<lambda>"
theorem single {w : World} {lH mA : Addr} {x : Int} {tx : Tok} {ns ns' : List Int} {O : Rep} {nw nt : Led} (hns : ∀ c fs, O = .fault c fs → ns' = ns) (hC : Does w lH ns ns' O 10 nw (.ref 165) [.ref mA, .int x tx]) : Taken w 42 (PreS pos1 qual1 181 lH ns nw nt) (OutS w pos1 qual1 181 lH ns' O nt) (.ref 186) [.ref mA, .int x tx] := by
  unfold Taken
  w_top off
  k_fill
  intro dp un gd cn cs a ccd cl outer A₀ base h₀ L m s Q E p loose mean mg mb nw' B F X N T XB TB DD hk hd hu hP post
  obtain ⟨vs, n, ps, rest, rfl, r1, r2, r3, hI, hT, hnt, hsub⟩ := hP
  have hcode := codeHd_of_K (c := 185) (P := 181) X (by kernel_rfl)
  refine wpAny_call ?_
  refine' code_cellSX ?k1 ?k2 ?k3 ?k4 ?k5 ?kXB ?kTB ?kD ?kA ?kF ?k6 ?k7 ?k8 ?k9 ?kB ?kC ?_ ?cK ?c2 ?c3 ?c4
  (case kA => exact rfl)
  (case kF => exact rfl)
  (case k2 => exact F)
  (case k1 => exact B)
  (case k3 => exact X)
  (case k4 => exact N)
  (case k5 => exact T)
  (case kXB => exact XB)
  (case kTB => exact TB)
  (case kD => exact DD)
  (case k6 => k_is)
  (case k7 => k_is)
  (case k8 => k_room)
  (case k9 => exact BindsTo.of_eq rfl)
  (case kB => exact kindsX rfl)
  (case kC => decide +kernel)
  (case cK => exact hk)
  (case c2 => exact rfl)
  (case c3 => exact rfl)
  (case c4 => exact rfl)
  intro g' L' h' tk' cells' FG' F' N' Y' B' X' T' D' l1
  (try k_lt l1)
  k_cells Y'
  (try simp only [List.cons_append, List.nil_append] at N')
  (try dsimp only)
  (try k_fold)
  obtain ⟨l1a, l1b, l1c⟩ := l1
  have hcode' : CodeHd g' 185 181 := codeHd_of_K (c := 185) (P := 181) X' (by kernel_rfl)
  (repeat' (first
    | (k_unfold; (try dsimp only)) | (k_end; wrow_close)
    | ((with_reducible show wpAny _ _ (leaving _ (Value.ref _)) _ _ _); with_reducible (k_here; k_dflt (first | (refine' leave_madeP ?k1 (Heap.MadeExc.of (by assumption)) ?k2 ?k3 ?_ ?k6 ?k5; (case k6 => exact rfl); (case k2 => assumption); (case k1 => assumption); (case k3 => k_asm); (case k5 => exact rfl); k_whole; intro h' t' R' U'; (try dsimp only at U' ⊢)) | (refine' leave_indexP ?k1 ?k0 ?k2 ?k3 ?_ ?k6 ?k5; (case k6 => exact rfl); (case k0 => assumption); (case k2 => assumption); (case k1 => assumption); (case k3 => k_asm); (case k5 => exact rfl); k_whole; intro h' R' U'; (try dsimp only at U' ⊢)) | (refine' leave_faultP ?k1 ?k0 ?k2 ?k3 ?_ ?k6 ?k5; (case k6 => exact rfl); (case k0 => assumption); (case k2 => assumption); (case k1 => assumption); (case k3 => k_asm); (case k5 => exact rfl); k_whole; intro h' t' dx' t1' t2' R' U'; (try dsimp only at U' ⊢)) | (refine' leaveOnP rfl ?k0 ?k1 ?k2 ?k3 ?k4 ?_; (case k3 => assumption); (case k0 => exact XIs.still (by assumption)); (case k1 => assumption); (case k2 => assumption); (case k4 => assumption); k_whole; intro h' R' U'; (try dsimp only at U' ⊢)))))
    | (with_reducible (k_here; (with_reducible show wpAny _ _ (call (Value.ref 179) _ _) _ _ _); refine unhide ?_))
    | (with_reducible (k_here; (with_reducible show wpAny _ _ (call (Value.ref _) _ _) _ _ _); (with_reducible rename Does _ _ _ _ _ _ _ _ _ => hS); k_dflt (refine' hS _ _ _ _ _ _ _ _ _ _ _ _ _ _ _ _ _ _ _ _ _ _ _ _ _ _ ?B ?F ?X ?N ?T ?hk ?hd ?hu ?hn ?hI ?U ?_ ?_; (case B => k_asm); (case F => k_asm); (case X => k_asm); (case N => k_asm); (case T => k_asm); (case hk => exact rfl); (case hd => ((try dsimp only [ktrTop, Around.in1, Around.deeper]); omega)); (case hu => ((try dsimp only [ktrTop, Around.in1, Around.deeper]); omega)); (case hn => assumption); (case hI => assumption); (case U => assumption)); (try clear hS)))
    | walk1 | (dsimp only; walk1) | (leave1; (try dsimp only))))
  refine' kla_eval ?zd0 ?_
  (case zd0 => exact rfl)
  refine' lam_any ?zF ?zN ?zT ?zC ?zcd ?zU ?zS ?znt ?zcl ?_
  (case zF => k_asm)
  (case zN => exact N')
  (case zT => exact T')
  (case zcd => exact rfl)
  (case zC => exact hcode')
  (case zU => exact .tail (show ¬ (@Eq Nat (L' + 1 + 1) 181) by omega) (.tail (show ¬ (@Eq Nat (L' + 1) 181) by omega) (.tail r3 (.head r2))))
  (case zS => exact hT)
  (case znt => exact fun q hq => (sub_tail (sub_tail (sub_tail (sub_tail hnt)))) q hq)
  (case zcl => exact rfl)
  intro f c' oc vs' t' ctv ps' ex h2 tk2 F2 N2 e1 m1 d1 d2 lf lex src0
  (try dsimp only at N2); (try dsimp only at m1)
  (repeat' (first
    | (k_unfold; (try dsimp only)) | (k_end; wrow_close)
    | ((with_reducible show wpAny _ _ (leaving _ (Value.ref _)) _ _ _); with_reducible (k_here; k_dflt (first | (refine' leave_madeP ?k1 (Heap.MadeExc.of (by assumption)) ?k2 ?k3 ?_ ?k6 ?k5; (case k6 => exact rfl); (case k2 => assumption); (case k1 => assumption); (case k3 => k_asm); (case k5 => exact rfl); k_whole; intro h' t' R' U'; (try dsimp only at U' ⊢)) | (refine' leave_indexP ?k1 ?k0 ?k2 ?k3 ?_ ?k6 ?k5; (case k6 => exact rfl); (case k0 => assumption); (case k2 => assumption); (case k1 => assumption); (case k3 => k_asm); (case k5 => exact rfl); k_whole; intro h' R' U'; (try dsimp only at U' ⊢)) | (refine' leave_faultP ?k1 ?k0 ?k2 ?k3 ?_ ?k6 ?k5; (case k6 => exact rfl); (case k0 => assumption); (case k2 => assumption); (case k1 => assumption); (case k3 => k_asm); (case k5 => exact rfl); k_whole; intro h' t' dx' t1' t2' R' U'; (try dsimp only at U' ⊢)) | (refine' leaveOnP rfl ?k0 ?k1 ?k2 ?k3 ?k4 ?_; (case k3 => assumption); (case k0 => exact XIs.still (by assumption)); (case k1 => assumption); (case k2 => assumption); (case k4 => assumption); k_whole; intro h' R' U'; (try dsimp only at U' ⊢)))))
    | (with_reducible (k_here; (with_reducible show wpAny _ _ (call (Value.ref 179) _ _) _ _ _); refine unhide ?_))
    | (with_reducible (k_here; (with_reducible show wpAny _ _ (call (Value.ref _) _ _) _ _ _); (with_reducible rename Does _ _ _ _ _ _ _ _ _ => hS); k_dflt (refine' hS _ _ _ _ _ _ _ _ _ _ _ _ _ _ _ _ _ _ _ _ _ _ _ _ _ _ ?B ?F ?X ?N ?T ?hk ?hd ?hu ?hn ?hI ?U ?_ ?_; (case B => k_asm); (case F => k_asm); (case X => k_asm); (case N => k_asm); (case T => k_asm); (case hk => exact rfl); (case hd => ((try dsimp only [ktrTop, Around.in1, Around.deeper]); omega)); (case hu => ((try dsimp only [ktrTop, Around.in1, Around.deeper]); omega)); (case hn => assumption); (case hI => assumption); (case U => assumption)); (try clear hS)))
    | walk1 | (dsimp only; walk1) | (leave1; (try dsimp only))))
  unfold Hide
  obtain ⟨led, G, K2⟩ := pack (cells := [_, _]) N2 m1 d1 ⟨_, _, rfl⟩ (fun e => absurd (lf (lH, listOf vs.toArray n) (.tail _ (.tail _ (.head _)))) (by rw [e]; exact Nat.lt_irrefl _)) (fun q hq e => absurd (lex q hq (lH, listOf vs.toArray n) (.tail _ (.tail _ (.head _)))) (by rw [e]; exact Nat.lt_irrefl _)) (fun q hq => by
    rcases List.mem_cons.mp hq with rfl | hq
    · exact show ¬ (@Eq Nat (L' + 1 + 1) lH) by omega
    · rw [List.mem_singleton.mp hq]; exact show ¬ (@Eq Nat (L' + 1) lH) by omega) (Ne.symm r3) r1
  have src : (c', oc) ∈ nt ∨ ∀ q' ∈ (lH, listOf vs.toArray n) :: (181, tabObj ps) :: rest, q'.1 < c' := src0.imp_right fun h q' hq' => h q' (.tail _ (.tail _  hq'))
  have N3 := K2.N
  have hf3 := K2.f
  have hc3 := K2.c
  have hx3 := K2.cells _ (.head _)
  have hm3 := K2.cells _ (.tail _ (.head _))
  have hU3 := K2.U
  have hnw3 : ∀ q ∈ nw, q ∈ led := fun q hq => K2.rest q (hsub q hq)
  clear N2 m1 lf lex
  have hC2 : Comes w 15 (fun l => l = led) (VS O ns' G) (YS O) (.ref f) [] := by
    unfold Comes
    k_fill
    intro dp2 un2 gd2 cn2 cs2 a2 ccd2 cl2 outer2 A2 base2 h02 L2 m2 s2 Q2 E2 p2 loose2 mean2 mg2 mb2 nw2 B2 F2 X2 N2 T2 hk2 hd2 hu2 hP2 postE2 post2
    subst hP2
    refine wpAny_call ?_
    refine' kla_code ?k1 ?k2 ?k3 ?k4 ?k5 ?kA ?kF ?kK ?k6 ?k7 ?k8 ?k9 ?kB ?_ ?c2 ?c3 ?c4 ?c5
    (case kA => exact rfl)
    (case kF => exact rfl)
    (case kK => exact hk2)
    (case k1 => exact B2)
    (case k2 => exact F2)
    (case k3 => exact X2)
    (case k4 => exact N2)
    (case k5 => exact T2)
    (case k6 => exact hf3)
    (case k7 => exact codeRec_news N2 hc3 d1 d2)
    (case k8 => k_room)
    (case k9 => exact rfl)
    (case c5 => decide)
    (case kB => exact locs rfl)
    (case c2 => exact rfl)
    (case c3 => exact rfl)
    (case c4 => exact rfl)
    intro g4 L4 h4 FG4 F4 N4 B4 X4 T4
    (try dsimp only)
    (repeat' (first
      | (k_unfold; (try dsimp only)) | (k_end; wrow_close)
      | ((with_reducible show wpAny _ _ (leaving _ (Value.ref _)) _ _ _); with_reducible (k_here; k_dflt (first | (refine' leave_madeP ?k1 (Heap.MadeExc.of (by assumption)) ?k2 ?k3 ?_ ?k6 ?k5; (case k6 => exact rfl); (case k2 => assumption); (case k1 => assumption); (case k3 => k_asm); (case k5 => exact rfl); k_whole; intro h' t' R' U'; (try dsimp only at U' ⊢)) | (refine' leave_indexP ?k1 ?k0 ?k2 ?k3 ?_ ?k6 ?k5; (case k6 => exact rfl); (case k0 => assumption); (case k2 => assumption); (case k1 => assumption); (case k3 => k_asm); (case k5 => exact rfl); k_whole; intro h' R' U'; (try dsimp only at U' ⊢)) | (refine' leave_faultP ?k1 ?k0 ?k2 ?k3 ?_ ?k6 ?k5; (case k6 => exact rfl); (case k0 => assumption); (case k2 => assumption); (case k1 => assumption); (case k3 => k_asm); (case k5 => exact rfl); k_whole; intro h' t' dx' t1' t2' R' U'; (try dsimp only at U' ⊢)) | (refine' leaveOnP rfl ?k0 ?k1 ?k2 ?k3 ?k4 ?_; (case k3 => assumption); (case k0 => exact XIs.still (by assumption)); (case k1 => assumption); (case k2 => assumption); (case k4 => assumption); k_whole; intro h' R' U'; (try dsimp only at U' ⊢)))))
      | (with_reducible (k_here; (with_reducible show wpAny _ _ (call (Value.ref 179) _ _) _ _ _); refine unhide ?_))
      | (with_reducible (k_here; (with_reducible show wpAny _ _ (call (Value.ref _) _ _) _ _ _); (with_reducible rename Does _ _ _ _ _ _ _ _ _ => hS); k_dflt (refine' hS _ _ _ _ _ _ _ _ _ _ _ _ _ _ _ _ _ _ _ _ _ _ _ _ _ _ ?B ?F ?X ?N ?T ?hk ?hd ?hu ?hn ?hI ?U ?_ ?_; (case B => k_asm); (case F => k_asm); (case X => k_asm); (case N => k_asm); (case T => k_asm); (case hk => exact rfl); (case hd => ((try dsimp only [ktrTop, Around.in1, Around.deeper]); omega)); (case hu => ((try dsimp only [ktrTop, Around.in1, Around.deeper]); omega)); (case hn => assumption); (case hI => assumption); (case U => assumption)); (try clear hS)))
      | walk1 | (dsimp only; walk1) | (leave1; (try dsimp only))))
    all_goals first
      | exact postE2 _ _ _ _ _ _ _ _ ⟨_, _, _, _, _, (by assumption), (by assumption), (by assumption), rfl, rfl, (by assumption)⟩ (by assumption) (by assumption) (by assumption) (by assumption)
      | exact post2 _ _ _ _ ⟨_, _, _, (by assumption), (by assumption), rfl, (by assumption)⟩ (by assumption) (by assumption)
  refine (taken (by decide) (fun nw e => ⟨_, _, _, _, e ▸ hf3⟩) ys_handed hC2) _ _ _ _ _ _ _ _ _ _ _ _ _ _ _ _ _ _ _ _ _ _ _ B' F2 X' N3 T' XB TB D' rfl ?hd ?hu rfl ?_
  case hd => ((try dsimp only [ktrTop, Around.in1, Around.deeper]); omega)
  case hu => ((try dsimp only [ktrTop, Around.in1, Around.deeper]); omega)
  intro h₁ h5 tk5 v5 nx5 R5 T5 B5 F5 X5 N5 P5 D5
  (try dsimp only)
  (repeat' (first
    | (k_unfold; (try dsimp only)) | (k_end; wrow_close)
    | ((with_reducible show wpAny _ _ (leaving _ (Value.ref _)) _ _ _); with_reducible (k_here; k_dflt (first | (refine' leave_madeP ?k1 (Heap.MadeExc.of (by assumption)) ?k2 ?k3 ?_ ?k6 ?k5; (case k6 => exact rfl); (case k2 => assumption); (case k1 => assumption); (case k3 => k_asm); (case k5 => exact rfl); k_whole; intro h' t' R' U'; (try dsimp only at U' ⊢)) | (refine' leave_indexP ?k1 ?k0 ?k2 ?k3 ?_ ?k6 ?k5; (case k6 => exact rfl); (case k0 => assumption); (case k2 => assumption); (case k1 => assumption); (case k3 => k_asm); (case k5 => exact rfl); k_whole; intro h' R' U'; (try dsimp only at U' ⊢)) | (refine' leave_faultP ?k1 ?k0 ?k2 ?k3 ?_ ?k6 ?k5; (case k6 => exact rfl); (case k0 => assumption); (case k2 => assumption); (case k1 => assumption); (case k3 => k_asm); (case k5 => exact rfl); k_whole; intro h' t' dx' t1' t2' R' U'; (try dsimp only at U' ⊢)) | (refine' leaveOnP rfl ?k0 ?k1 ?k2 ?k3 ?k4 ?_; (case k3 => assumption); (case k0 => exact XIs.still (by assumption)); (case k1 => assumption); (case k2 => assumption); (case k4 => assumption); k_whole; intro h' R' U'; (try dsimp only at U' ⊢)))))
    | (with_reducible (k_here; (with_reducible show wpAny _ _ (call (Value.ref 179) _ _) _ _ _); refine unhide ?_))
    | (with_reducible (k_here; (with_reducible show wpAny _ _ (call (Value.ref _) _ _) _ _ _); (with_reducible rename Does _ _ _ _ _ _ _ _ _ => hS); k_dflt (refine' hS _ _ _ _ _ _ _ _ _ _ _ _ _ _ _ _ _ _ _ _ _ _ _ _ _ _ ?B ?F ?X ?N ?T ?hk ?hd ?hu ?hn ?hI ?U ?_ ?_; (case B => k_asm); (case F => k_asm); (case X => k_asm); (case N => k_asm); (case T => k_asm); (case hk => exact rfl); (case hd => ((try dsimp only [ktrTop, Around.in1, Around.deeper]); omega)); (case hu => ((try dsimp only [ktrTop, Around.in1, Around.deeper]); omega)); (case hn => assumption); (case hI => assumption); (case U => assumption)); (try clear hS)))
    | walk1 | (dsimp only; walk1) | (leave1; (try dsimp only))))
  all_goals exact post _ _ _ _ _ (outS_of K2 e1 d1 d2 hI hns src R5) (by assumption) (by assumption) (by assumption) (by assumption) (by assumption) (by assumption) (by assumption)
end Mine
end
section
open PySem PySem.W PyProof.Rows PySem.Calls
set_option Elab.async false
set_option maxRecDepth 100000
set_option maxHeartbeats 8000000
namespace Mine
noncomputable abbrev pos2 : Pos := ⟨107, 22, 107, 58⟩
noncomputable abbrev qual2 : Str := "_law_worked" ++ ".<locals>." ++ "<lambda>"
theorem worked {w : World} {lH tup : Addr} {nm : Str} {tn : Tok} {ns ns' : List Int} {O : Rep} {nw nt : Led} (hns : ∀ c fs, O = .fault c fs → ns' = ns) (hC : Does w lH ns ns' O 3 nw (.ref 158) [.ref lH, .str nm tn, .ref tup]) : Taken w 42 (PreS pos2 qual2 188 lH ns nw nt) (OutS w pos2 qual2 188 lH ns' O nt) (.ref 193) [.ref lH, .str nm tn, .ref tup] := by
  unfold Taken
  w_top off
  k_fill
  intro dp un gd cn cs a ccd cl outer A₀ base h₀ L m s Q E p loose mean mg mb nw' B F X N T XB TB DD hk hd hu hP post
  obtain ⟨vs, n, ps, rest, rfl, r1, r2, r3, hI, hT, hnt, hsub⟩ := hP
  have hcode := codeHd_of_K (c := 192) (P := 188) X (by kernel_rfl)
  refine wpAny_call ?_
  refine' code_cellSX ?k1 ?k2 ?k3 ?k4 ?k5 ?kXB ?kTB ?kD ?kA ?kF ?k6 ?k7 ?k8 ?k9 ?kB ?kC ?_ ?cK ?c2 ?c3 ?c4
  (case kA => exact rfl)
  (case kF => exact rfl)
  (case k2 => exact F)
  (case k1 => exact B)
  (case k3 => exact X)
  (case k4 => exact N)
  (case k5 => exact T)
  (case kXB => exact XB)
  (case kTB => exact TB)
  (case kD => exact DD)
  (case k6 => k_is)
  (case k7 => k_is)
  (case k8 => k_room)
  (case k9 => exact BindsTo.of_eq rfl)
  (case kB => exact kindsX rfl)
  (case kC => decide +kernel)
  (case cK => exact hk)
  (case c2 => exact rfl)
  (case c3 => exact rfl)
  (case c4 => exact rfl)
  intro g' L' h' tk' cells' FG' F' N' Y' B' X' T' D' l1
  (try k_lt l1)
  k_cells Y'
  (try simp only [List.cons_append, List.nil_append] at N')
  (try dsimp only)
  (try k_fold)
  obtain ⟨l1a, l1b, l1c⟩ := l1
  have hcode' : CodeHd g' 192 188 := codeHd_of_K (c := 192) (P := 188) X' (by kernel_rfl)
  (repeat' (first
    | (k_unfold; (try dsimp only)) | (k_end; wrow_close)
    | ((with_reducible show wpAny _ _ (leaving _ (Value.ref _)) _ _ _); with_reducible (k_here; k_dflt (first | (refine' leave_madeP ?k1 (Heap.MadeExc.of (by assumption)) ?k2 ?k3 ?_ ?k6 ?k5; (case k6 => exact rfl); (case k2 => assumption); (case k1 => assumption); (case k3 => k_asm); (case k5 => exact rfl); k_whole; intro h' t' R' U'; (try dsimp only at U' ⊢)) | (refine' leave_indexP ?k1 ?k0 ?k2 ?k3 ?_ ?k6 ?k5; (case k6 => exact rfl); (case k0 => assumption); (case k2 => assumption); (case k1 => assumption); (case k3 => k_asm); (case k5 => exact rfl); k_whole; intro h' R' U'; (try dsimp only at U' ⊢)) | (refine' leave_faultP ?k1 ?k0 ?k2 ?k3 ?_ ?k6 ?k5; (case k6 => exact rfl); (case k0 => assumption); (case k2 => assumption); (case k1 => assumption); (case k3 => k_asm); (case k5 => exact rfl); k_whole; intro h' t' dx' t1' t2' R' U'; (try dsimp only at U' ⊢)) | (refine' leaveOnP rfl ?k0 ?k1 ?k2 ?k3 ?k4 ?_; (case k3 => assumption); (case k0 => exact XIs.still (by assumption)); (case k1 => assumption); (case k2 => assumption); (case k4 => assumption); k_whole; intro h' R' U'; (try dsimp only at U' ⊢)))))
    | (with_reducible (k_here; (with_reducible show wpAny _ _ (call (Value.ref 179) _ _) _ _ _); refine unhide ?_))
    | (with_reducible (k_here; (with_reducible show wpAny _ _ (call (Value.ref _) _ _) _ _ _); (with_reducible rename Does _ _ _ _ _ _ _ _ _ => hS); k_dflt (refine' hS _ _ _ _ _ _ _ _ _ _ _ _ _ _ _ _ _ _ _ _ _ _ _ _ _ _ ?B ?F ?X ?N ?T ?hk ?hd ?hu ?hn ?hI ?U ?_ ?_; (case B => k_asm); (case F => k_asm); (case X => k_asm); (case N => k_asm); (case T => k_asm); (case hk => exact rfl); (case hd => ((try dsimp only [ktrTop, Around.in1, Around.deeper]); omega)); (case hu => ((try dsimp only [ktrTop, Around.in1, Around.deeper]); omega)); (case hn => assumption); (case hI => assumption); (case U => assumption)); (try clear hS)))
    | walk1 | (dsimp only; walk1) | (leave1; (try dsimp only))))
  refine' kla_eval ?zd0 ?_
  (case zd0 => exact rfl)
  refine' lam_any ?zF ?zN ?zT ?zC ?zcd ?zU ?zS ?znt ?zcl ?_
  (case zF => k_asm)
  (case zN => exact N')
  (case zT => exact T')
  (case zcd => exact rfl)
  (case zC => exact hcode')
  (case zU => exact .tail (show ¬ (@Eq Nat (L' + 1 + 1 + 1) 188) by omega) (.tail (show ¬ (@Eq Nat (L' + 1 + 1) 188) by omega) (.tail (show ¬ (@Eq Nat (L' + 1) 188) by omega) (.tail r3 (.head r2)))))
  (case zS => exact hT)
  (case znt => exact fun q hq => (sub_tail (sub_tail (sub_tail (sub_tail (sub_tail hnt))))) q hq)
  (case zcl => exact rfl)
  intro f c' oc vs' t' ctv ps' ex h2 tk2 F2 N2 e1 m1 d1 d2 lf lex src0
  (try dsimp only at N2); (try dsimp only at m1)
  (repeat' (first
    | (k_unfold; (try dsimp only)) | (k_end; wrow_close)
    | ((with_reducible show wpAny _ _ (leaving _ (Value.ref _)) _ _ _); with_reducible (k_here; k_dflt (first | (refine' leave_madeP ?k1 (Heap.MadeExc.of (by assumption)) ?k2 ?k3 ?_ ?k6 ?k5; (case k6 => exact rfl); (case k2 => assumption); (case k1 => assumption); (case k3 => k_asm); (case k5 => exact rfl); k_whole; intro h' t' R' U'; (try dsimp only at U' ⊢)) | (refine' leave_indexP ?k1 ?k0 ?k2 ?k3 ?_ ?k6 ?k5; (case k6 => exact rfl); (case k0 => assumption); (case k2 => assumption); (case k1 => assumption); (case k3 => k_asm); (case k5 => exact rfl); k_whole; intro h' R' U'; (try dsimp only at U' ⊢)) | (refine' leave_faultP ?k1 ?k0 ?k2 ?k3 ?_ ?k6 ?k5; (case k6 => exact rfl); (case k0 => assumption); (case k2 => assumption); (case k1 => assumption); (case k3 => k_asm); (case k5 => exact rfl); k_whole; intro h' t' dx' t1' t2' R' U'; (try dsimp only at U' ⊢)) | (refine' leaveOnP rfl ?k0 ?k1 ?k2 ?k3 ?k4 ?_; (case k3 => assumption); (case k0 => exact XIs.still (by assumption)); (case k1 => assumption); (case k2 => assumption); (case k4 => assumption); k_whole; intro h' R' U'; (try dsimp only at U' ⊢)))))
    | (with_reducible (k_here; (with_reducible show wpAny _ _ (call (Value.ref 179) _ _) _ _ _); refine unhide ?_))
    | (with_reducible (k_here; (with_reducible show wpAny _ _ (call (Value.ref _) _ _) _ _ _); (with_reducible rename Does _ _ _ _ _ _ _ _ _ => hS); k_dflt (refine' hS _ _ _ _ _ _ _ _ _ _ _ _ _ _ _ _ _ _ _ _ _ _ _ _ _ _ ?B ?F ?X ?N ?T ?hk ?hd ?hu ?hn ?hI ?U ?_ ?_; (case B => k_asm); (case F => k_asm); (case X => k_asm); (case N => k_asm); (case T => k_asm); (case hk => exact rfl); (case hd => ((try dsimp only [ktrTop, Around.in1, Around.deeper]); omega)); (case hu => ((try dsimp only [ktrTop, Around.in1, Around.deeper]); omega)); (case hn => assumption); (case hI => assumption); (case U => assumption)); (try clear hS)))
    | walk1 | (dsimp only; walk1) | (leave1; (try dsimp only))))
  unfold Hide
  obtain ⟨led, G, K2⟩ := pack (cells := [_, _, _]) N2 m1 d1 ⟨_, _, rfl⟩ (fun e => absurd (lf (lH, listOf vs.toArray n) (.tail _ (.tail _ (.tail _ (.head _))))) (by rw [e]; exact Nat.lt_irrefl _)) (fun q hq e => absurd (lex q hq (lH, listOf vs.toArray n) (.tail _ (.tail _ (.tail _ (.head _))))) (by rw [e]; exact Nat.lt_irrefl _)) (fun q hq => by
    rcases List.mem_cons.mp hq with rfl | hq
    · exact show ¬ (@Eq Nat (L' + 1 + 1 + 1) lH) by omega
    rcases List.mem_cons.mp hq with rfl | hq
    · exact show ¬ (@Eq Nat (L' + 1 + 1) lH) by omega
    · rw [List.mem_singleton.mp hq]; exact show ¬ (@Eq Nat (L' + 1) lH) by omega) (Ne.symm r3) r1
  have src : (c', oc) ∈ nt ∨ ∀ q' ∈ (lH, listOf vs.toArray n) :: (188, tabObj ps) :: rest, q'.1 < c' := src0.imp_right fun h q' hq' => h q' (.tail _ (.tail _ (.tail _  hq')))
  have N3 := K2.N
  have hf3 := K2.f
  have hc3 := K2.c
  have hx3 := K2.cells _ (.head _)
  have hm3 := K2.cells _ (.tail _ (.head _))
  have hk3 := K2.cells _ (.tail _ (.tail _ (.head _)))
  have hU3 := K2.U
  have hnw3 : ∀ q ∈ nw, q ∈ led := fun q hq => K2.rest q (hsub q hq)
  clear N2 m1 lf lex
  have hC2 : Comes w 15 (fun l => l = led) (VS O ns' G) (YS O) (.ref f) [] := by
    unfold Comes
    k_fill
    intro dp2 un2 gd2 cn2 cs2 a2 ccd2 cl2 outer2 A2 base2 h02 L2 m2 s2 Q2 E2 p2 loose2 mean2 mg2 mb2 nw2 B2 F2 X2 N2 T2 hk2 hd2 hu2 hP2 postE2 post2
    subst hP2
    refine wpAny_call ?_
    refine' kla_code ?k1 ?k2 ?k3 ?k4 ?k5 ?kA ?kF ?kK ?k6 ?k7 ?k8 ?k9 ?kB ?_ ?c2 ?c3 ?c4 ?c5
    (case kA => exact rfl)
    (case kF => exact rfl)
    (case kK => exact hk2)
    (case k1 => exact B2)
    (case k2 => exact F2)
    (case k3 => exact X2)
    (case k4 => exact N2)
    (case k5 => exact T2)
    (case k6 => exact hf3)
    (case k7 => exact codeRec_news N2 hc3 d1 d2)
    (case k8 => k_room)
    (case k9 => exact rfl)
    (case c5 => decide)
    (case kB => exact locs rfl)
    (case c2 => exact rfl)
    (case c3 => exact rfl)
    (case c4 => exact rfl)
    intro g4 L4 h4 FG4 F4 N4 B4 X4 T4
    (try dsimp only)
    (repeat' (first
      | (k_unfold; (try dsimp only)) | (k_end; wrow_close)
      | ((with_reducible show wpAny _ _ (leaving _ (Value.ref _)) _ _ _); with_reducible (k_here; k_dflt (first | (refine' leave_madeP ?k1 (Heap.MadeExc.of (by assumption)) ?k2 ?k3 ?_ ?k6 ?k5; (case k6 => exact rfl); (case k2 => assumption); (case k1 => assumption); (case k3 => k_asm); (case k5 => exact rfl); k_whole; intro h' t' R' U'; (try dsimp only at U' ⊢)) | (refine' leave_indexP ?k1 ?k0 ?k2 ?k3 ?_ ?k6 ?k5; (case k6 => exact rfl); (case k0 => assumption); (case k2 => assumption); (case k1 => assumption); (case k3 => k_asm); (case k5 => exact rfl); k_whole; intro h' R' U'; (try dsimp only at U' ⊢)) | (refine' leave_faultP ?k1 ?k0 ?k2 ?k3 ?_ ?k6 ?k5; (case k6 => exact rfl); (case k0 => assumption); (case k2 => assumption); (case k1 => assumption); (case k3 => k_asm); (case k5 => exact rfl); k_whole; intro h' t' dx' t1' t2' R' U'; (try dsimp only at U' ⊢)) | (refine' leaveOnP rfl ?k0 ?k1 ?k2 ?k3 ?k4 ?_; (case k3 => assumption); (case k0 => exact XIs.still (by assumption)); (case k1 => assumption); (case k2 => assumption); (case k4 => assumption); k_whole; intro h' R' U'; (try dsimp only at U' ⊢)))))
      | (with_reducible (k_here; (with_reducible show wpAny _ _ (call (Value.ref 179) _ _) _ _ _); refine unhide ?_))
      | (with_reducible (k_here; (with_reducible show wpAny _ _ (call (Value.ref _) _ _) _ _ _); (with_reducible rename Does _ _ _ _ _ _ _ _ _ => hS); k_dflt (refine' hS _ _ _ _ _ _ _ _ _ _ _ _ _ _ _ _ _ _ _ _ _ _ _ _ _ _ ?B ?F ?X ?N ?T ?hk ?hd ?hu ?hn ?hI ?U ?_ ?_; (case B => k_asm); (case F => k_asm); (case X => k_asm); (case N => k_asm); (case T => k_asm); (case hk => exact rfl); (case hd => ((try dsimp only [ktrTop, Around.in1, Around.deeper]); omega)); (case hu => ((try dsimp only [ktrTop, Around.in1, Around.deeper]); omega)); (case hn => assumption); (case hI => assumption); (case U => assumption)); (try clear hS)))
      | walk1 | (dsimp only; walk1) | (leave1; (try dsimp only))))
    all_goals first
      | exact postE2 _ _ _ _ _ _ _ _ ⟨_, _, _, _, _, (by assumption), (by assumption), (by assumption), rfl, rfl, (by assumption)⟩ (by assumption) (by assumption) (by assumption) (by assumption)
      | exact post2 _ _ _ _ ⟨_, _, _, (by assumption), (by assumption), rfl, (by assumption)⟩ (by assumption) (by assumption)
  refine (taken (by decide) (fun nw e => ⟨_, _, _, _, e ▸ hf3⟩) ys_handed hC2) _ _ _ _ _ _ _ _ _ _ _ _ _ _ _ _ _ _ _ _ _ _ _ B' F2 X' N3 T' XB TB D' rfl ?hd ?hu rfl ?_
  case hd => ((try dsimp only [ktrTop, Around.in1, Around.deeper]); omega)
  case hu => ((try dsimp only [ktrTop, Around.in1, Around.deeper]); omega)
  intro h₁ h5 tk5 v5 nx5 R5 T5 B5 F5 X5 N5 P5 D5
  (try dsimp only)
  (repeat' (first
    | (k_unfold; (try dsimp only)) | (k_end; wrow_close)
    | ((with_reducible show wpAny _ _ (leaving _ (Value.ref _)) _ _ _); with_reducible (k_here; k_dflt (first | (refine' leave_madeP ?k1 (Heap.MadeExc.of (by assumption)) ?k2 ?k3 ?_ ?k6 ?k5; (case k6 => exact rfl); (case k2 => assumption); (case k1 => assumption); (case k3 => k_asm); (case k5 => exact rfl); k_whole; intro h' t' R' U'; (try dsimp only at U' ⊢)) | (refine' leave_indexP ?k1 ?k0 ?k2 ?k3 ?_ ?k6 ?k5; (case k6 => exact rfl); (case k0 => assumption); (case k2 => assumption); (case k1 => assumption); (case k3 => k_asm); (case k5 => exact rfl); k_whole; intro h' R' U'; (try dsimp only at U' ⊢)) | (refine' leave_faultP ?k1 ?k0 ?k2 ?k3 ?_ ?k6 ?k5; (case k6 => exact rfl); (case k0 => assumption); (case k2 => assumption); (case k1 => assumption); (case k3 => k_asm); (case k5 => exact rfl); k_whole; intro h' t' dx' t1' t2' R' U'; (try dsimp only at U' ⊢)) | (refine' leaveOnP rfl ?k0 ?k1 ?k2 ?k3 ?k4 ?_; (case k3 => assumption); (case k0 => exact XIs.still (by assumption)); (case k1 => assumption); (case k2 => assumption); (case k4 => assumption); k_whole; intro h' R' U'; (try dsimp only at U' ⊢)))))
    | (with_reducible (k_here; (with_reducible show wpAny _ _ (call (Value.ref 179) _ _) _ _ _); refine unhide ?_))
    | (with_reducible (k_here; (with_reducible show wpAny _ _ (call (Value.ref _) _ _) _ _ _); (with_reducible rename Does _ _ _ _ _ _ _ _ _ => hS); k_dflt (refine' hS _ _ _ _ _ _ _ _ _ _ _ _ _ _ _ _ _ _ _ _ _ _ _ _ _ _ ?B ?F ?X ?N ?T ?hk ?hd ?hu ?hn ?hI ?U ?_ ?_; (case B => k_asm); (case F => k_asm); (case X => k_asm); (case N => k_asm); (case T => k_asm); (case hk => exact rfl); (case hd => ((try dsimp only [ktrTop, Around.in1, Around.deeper]); omega)); (case hu => ((try dsimp only [ktrTop, Around.in1, Around.deeper]); omega)); (case hn => assumption); (case hI => assumption); (case U => assumption)); (try clear hS)))
    | walk1 | (dsimp only; walk1) | (leave1; (try dsimp only))))
  all_goals exact post _ _ _ _ _ (outS_of K2 e1 d1 d2 hI hns src R5) (by assumption) (by assumption) (by assumption) (by assumption) (by assumption) (by assumption) (by assumption)
end Mine
end
section
open PySem PySem.W PyProof.Rows PySem.Calls
set_option Elab.async false
set_option maxRecDepth 100000
set_option maxHeartbeats 8000000
namespace Mine
inductive Out where
  | val (v : Value)
  | exc (k : XK)
/-- the place `i` of `vs` (from the front or from the end) holds `v` -/
def At (vs : Array Value) (i : Int) (v : Value) : Prop :=
  (0 ≤ i ∧ i < 2 ^ 63 ∧ vs[i.toNat]? = some v) ∨ (i < 0 ∧ -(2 ^ 63) ≤ i ∧ -(vs.size : Int) ≤ i ∧ vs[(i + vs.size).toNat]? = some v)

/-- `r[i]` comes out as `O`, in whatever frame -/
def Yields (w : World) (nw : List (Addr × Obj)) (r : Value) (i : Int) (D : Nat) (O : Out) : Prop :=
  ∀ (value : PySem.Expr) (sn : Str) (sp : Pos) (ti : Tok) (dp un : Nat) (gd : Option (List Code)) (cn : Str) (cs : Scope) (a : Addr) (ccd : Value) (cl : List (Str × Addr)) (outer : List Env) (A₀ : Around) (base h₀ : Heap) (L : Addr) (m : Str → Option Value) (s : Shared) (Q E : Value → Shared → Prop)
    (p : Program) (loose : List Str) (mean : ExcName → Option Value) (mg mb : Str → Option Value) (nw' : List (Addr × Obj)),
    Below A₀ base outer h₀ → Fr h₀ L s.heap m → (topH.heap_1 w.params).In h₀ → News h₀ L s.heap nw' → Top p loose mean mg mb h₀ → cs.kind = .function → dp + D ≤ 400 → un + 8 * D ≤ 400 → (∀ q ∈ nw, q ∈ nw') →
    (match O with
      | .val v => ∀ h' tk', Fr h₀ L h' m → News h₀ L h' nw' → Q v { s with heap := h', toks := tk' }
      | .exc k => ∀ G e P ex h' tk', XIs w k P ex → Fr h₀ L G m → RaisedP base G (envX cn cs L a ccd cl :: outer) e P (ex ++ nw') h' → G.UpToSlots h' → E (.ref e) { s with heap := h', toks := tk' }) →
    wpAny (model PySem.Challenge.rw_kn0109_04.row.prog w) (ktrTop dp un gd cn cs L a ccd cl outer) (subscriptTail value (.Name sn sp) r (.int i ti)) Q E s

theorem yields_list {w : World} {nw : List (Addr × Obj)} {row : Addr} {vs : Array Value} {n : Nat} {i : Int} {v : Value} (hr : (row, listOf vs n) ∈ nw) (ha : At vs i v) : Yields w nw (.ref row) i 1 (.val v) := by
  intro value sn sp ti dp un gd cn cs a ccd cl outer A₀ base h₀ L m s Q E p loose mean mg mb nw' B F X N T hk hd hu hn post
  have hl : s.heap.IsList row vs := ⟨_, (N _ (hn _ hr)).1, rfl, n, rfl⟩
  refine tail_any hl.typeIs slot_list_getitem.lookup ?_ (by with_unfolding_all rfl)
  have q : Q v s := post s.heap s.toks F N
  rcases ha with ⟨h0, h1, h2⟩ | ⟨h0, h1, h2, h3⟩
  · exact wpAny_getItem_list hl h0 h1 h2 q
  · exact wpAny_getItem_list_neg hl h0 h2 h1 h3 q

theorem yields_out {w : World} {nw : List (Addr × Obj)} {row : Addr} {vs : Array Value} {n : Nat} {i : Int} (hr : (row, listOf vs n) ∈ nw) (ho : i < -(vs.size : Int) ∨ (vs.size : Int) ≤ i) (hlo : -(2 ^ 63) ≤ i) (hhi : i < 2 ^ 63) : Yields w nw (.ref row) i 1 (.exc .index) := by
  intro value sn sp ti dp un gd cn cs a ccd cl outer A₀ base h₀ L m s Q E p loose mean mg mb nw' B F X N T hk hd hu hn post
  have hl : s.heap.IsList row vs := ⟨_, (N _ (hn _ hr)).1, rfl, n, rfl⟩
  refine tail_any hl.typeIs slot_list_getitem.lookup (wpAny_getItem_list_out rfl hl ho hlo hhi fun h' tk e hx => ?_) (by with_unfolding_all rfl)
  obtain ⟨ob, t, he, hc, hd'⟩ := hx.there
  obtain ⟨G, F', R, U⟩ := raiseHere (env := envX cn cs L a ccd cl) (P := fun o => o.cls = .type "IndexError") (ex := []) B F N hx.keeps hx.new he hc hd' rfl (fun _ h => nomatch h) rfl hk
  exact post G e _ [] h' tk .index F' R U

theorem item_at {prog : Program} {w : World} {A : Around} {E : Value → Shared → Prop} {s : Shared} {value slice : PySem.Expr} {l : Addr} {vs : Array Value} {k : Int} {u : Tok} {v : Value} {Q : Value → Shared → Prop}
    (hl : s.heap.IsList l vs) (ha : At vs k v) (h : Q v s)
    (hs : subscripted slice false (.ref l) (.int k u) = operate [.ref l, .int k u] (getItem (.ref l) (.int k u)) := by with_unfolding_all rfl) :
    wpAny (model prog w) A (subscriptTail value slice (.ref l) (.int k u)) Q E s := by
  refine tail_any hl.typeIs slot_list_getitem.lookup ?_ hs
  rcases ha with ⟨h0, h1, h2⟩ | ⟨h0, h1, h2, h3⟩
  · exact wpAny_getItem_list hl h0 h1 h2 h
  · exact wpAny_getItem_list_neg hl h0 h2 h1 h3 h

section
variable {prog : Program} {w : World} {A : Around} {E : Value → Shared → Prop} {s : Shared} {value slice : PySem.Expr} {l : Addr} {es : List DictEntry} {n : Nat} {x : Str} {t : Tok} {v : Value} {Q : Value → Shared → Prop} {h₀ : Heap} {L : Addr} {news : List (Addr × Obj)}

theorem dict_map (N : News h₀ L s.heap news) (hm : (l, dictOf es n) ∈ news) (hk : KeysLit w.params es) : s.heap.MapOf (strKind prog w) l (fun k => findBy Value.isStrOf es.toArray k) :=
  ⟨_, es.toArray, n, (N _ hm).1, ⟨rfl, rfl, rfl⟩, rfl, fun e he => by
    obtain ⟨x, t, e1, e2⟩ := hk.all e (by simpa using he)
    exact ⟨x, by rw [e1]; exact strKind_is prog w x t, e2⟩, fun _ => rfl⟩
theorem dict_find {r : Option Value} (e : getL x es = some r) : findBy Value.isStrOf es.toArray x = r := by
  unfold getL at e
  have q : (fun d : DictEntry => Value.isStrOf x d.key) = fun d => d.key.isStr x := funext fun d => (isStr_of x d.key).symm
  unfold findBy
  rw [List.find?_toArray, q]
  split at e
  · rename_i e' h'; rw [h']; exact Option.some.inj e
  · rename_i h'
    rw [h']
    split at e
    · cases e
    · exact Option.some.inj e
theorem dict_item (N : News h₀ L s.heap news) (hm : (l, dictOf es n) ∈ news) (hk : KeysLit w.params es) (e : getL x es = some (some v)) (h : Q v { s with toks := s.toks + 1 })
    (hs : subscripted slice false (.ref l) (.str x t) = operate [.ref l, .str x t] (getItem (.ref l) (.str x t)) := by with_unfolding_all rfl) :
    wpAny (model prog w) A (subscriptTail value slice (.ref l) (.str x t)) Q E s :=
  have m := dict_map (prog := prog) N hm hk
  tail_any m.typeIs slot_dict_getitem.lookup (wpAny_getItem_of (strKind_is prog w x t) m (dict_find e) h) hs

theorem raise_made {α : Type} {M : Model} {A : Around} {E : Value → Shared → Prop} {s : Shared} {cls : String} {args : List Value} {Q : α → Shared → Prop} (hp : PlainExc cls) (hh : A.handled = none)
    (h : ∀ h' e, Heap.MadeExc s.heap h' e cls args → E (.ref e) { s with heap := h' }) (hsz : args.length ≤ sizeLine) :
    wpAny M A (do raiseNew (← newExc (.type cls) args) : Sem α) Q E s := by
  refine wpAny_bind ?_
  unfold newExc newTuple
  refine wpAny_bind (wpAny_newObj_type ?_ (show args.toArray.size ≤ sizeLine by simpa using hsz))
  refine wpAny_bind (m := firstArgMember _ _) (wpAny_of_eq (a := Value.none) (by simp only [firstArgMember, hp.first]; rfl) ?_)
  rw [hp.own]
  refine wpAny_newObj_type ?_ (by size_fits)
  unfold raiseNew
  refine wpAny_bind (wpAny_handled ?_)
  rw [hh]
  first
    | refine wpAny_throw ?_
    | refine wpAny_bind (wpAny_pure (wpAny_throw ?_))
  refine h _ _ ⟨fun b o hb => Heap.get?_push_of_some _ (Heap.get?_push_of_some _ hb), Heap.get?_none_of_le (by simp), s.heap.objs.size, ?_, Heap.get?_none_of_le (Nat.le_refl _), Heap.get?_push_of_some _ (Heap.get?_push_size _ rfl)⟩
  exact Heap.get?_push_size _ rfl

theorem dict_missing (N : News h₀ L s.heap news) (hm : (l, dictOf es n) ∈ news) (hk : KeysLit w.params es) (e : getL x es = some none) (hd : (l == sysModules) = false) (hh : A.handled = none)
    (h : ∀ h' e, Heap.MadeExc s.heap h' e "KeyError" [.str x t] → E (.ref e) { s with heap := h', toks := s.toks + 1 })
    (hs : subscripted slice false (.ref l) (.str x t) = operate [.ref l, .str x t] (getItem (.ref l) (.str x t)) := by with_unfolding_all rfl) :
    wpAny (model prog w) A (subscriptTail value slice (.ref l) (.str x t)) Q E s := by
  have m := dict_map (prog := prog) N hm hk
  refine tail_any m.typeIs slot_dict_getitem.lookup ?_ hs
  unfold getItem
  try with_reducible refine wpAny_holding ?_
  refine wpAny_bind (wpAny_sequenceKey m.typeIs (by decide) ?_)
  refine wpAny_bind (wpAny_callSpecial?_slot (name := Str.ofString "__getitem__") m.typeIs slot_dict_getitem
    (wpAny_call_entry slot_dict_getitem m.typeIs entry_dict_getitem ?_ (args_dict_getitem _ _)))
  show wpAny _ _ (dictGet l (.str x t) >>= _) _ _ s
  refine wpAny_bind (wpAny_dictGet_of (strKind_is prog w x t) m ?_)
  rw [dict_find e]
  show wpAny _ _ (Builtin.Dict.missed l (.str x t) >>= _) _ _ _
  refine wpAny_bind (wpAny_missed_other hd ?_)
  refine wpAny_bind (wpAny_typeOf (s := { s with toks := s.toks + 1 }) m.typeIs ?_)
  show wpAny _ _ (if (Value.type "dict" != Value.type "dict") = true then _ else _) _ _ _
  rw [if_neg (by decide)]
  exact wpAny_bind (wpAny_rule (raise_made (A := A.in1) plainExc_KeyError hh h (by simp [sizeLine])))
end

noncomputable def findS (x : Str) : List (Str × Value) → Option Value
  | [] => none
  | (k, v) :: r => if k == x then some v else findS x r
theorem pairs_shape {w : World} : ∀ {es : List DictEntry} {kvs : List (Str × Value)}, Pairs (s4 w) es kvs → (∀ e ∈ es, ∃ k, (s4 w).is k e.key = true ∧ e.hash = (s4 w).hash k) →
    KeysLit w.params es ∧ ∀ x, getL x es = some (findS x kvs)
  | _, _, .nil, _ => ⟨trivial, fun _ => rfl⟩
  | _, _, .cons (e := e) (kv := kv) (es := es) (kvs := kvs) h1 h2 h3, hk => by
    obtain ⟨a, b⟩ := pairs_shape h3 fun e he => hk e (List.mem_cons_of_mem _ he)
    obtain ⟨k, v⟩ := kv
    obtain ⟨t, ht⟩ := Value.isStrOf_shape h1
    obtain ⟨k', hk1, hk2⟩ := hk e (List.mem_cons_self ..)
    have ek : k' = k := (s4 w).inj _ _ _ hk1 h1
    subst ek
    refine ⟨⟨⟨k', t, ht, hk2⟩, a⟩, fun x => ?_⟩
    have hb := b x
    obtain ⟨hash, key, val⟩ := e
    simp only at ht h2
    subst ht h2
    have e1 : (Value.str k' t).isStr x = (k' == x) := rfl
    cases hkx : (k' == x) with
    | true => simp only [getL, findS, List.find?_cons, e1, hkx, if_true]
    | false =>
      have e2 : DictEntry.refKey ⟨hash, Value.str k' t, val⟩ = false := rfl
      simp only [getL, findS, List.find?_cons, List.any_cons, e1, e2, hkx, Bool.false_or] at hb ⊢
      simpa using hb
theorem dict_shape {w : World} {o : Obj} {kvs : List (Str × Value)} (h : Obj.IsDictOf (s4 w) o kvs) : ∃ es n, o = dictOf es n ∧ KeysLit w.params es ∧ ∀ x, getL x es = some (findS x kvs) := by
  obtain ⟨es, n, ⟨hc, hd, hs⟩, hdat, hk, hp, _⟩ := h
  obtain ⟨a, b⟩ := pairs_shape hp fun e he => hk e (by simpa using he)
  refine ⟨es.toList, n, ?_, a, b⟩
  obtain ⟨c, d, dt, sl⟩ := o
  simp only at hc hd hs hdat
  subst hc hd hs hdat
  rfl
local macro_rules | `(tactic| k_room) => `(tactic| ((simp only [depth_mark, depth_under_make, depth_under_kw, depth_in1, depth_deeper, recursionLimit] at *); omega))
-- an item of a list of the ledger, at a place that is known
-- an empty one
-- the iterator's own row
-- a dict's item by a written key

section
variable {w : World} {nw : List (Addr × Obj)} {rr it d a : Addr} {tk n : Nat} {i : Int} {D : Nat} {es : List DictEntry} {vs : Array Value}
theorem step_int {x : Int} {tx : Tok} (hY : Yields w nw (.ref rr) i D (.val (.int x tx))) (h1 : (it, instObj 112 d) ∈ nw) (h2 : (d, dictOf [⟨PyData.keyHash w.params "results", .str "results" tk, .ref rr⟩] 1) ∈ nw)  : Yields w nw (.ref it) i (D + 1) (.exc .value) := by
  unfold Yields
  w_top off
  k_fill
  intro value sn sp ti dp un gd cn cs a' ccd cl outer A₀ base h₀ L m s Q E p loose mean mg mb nw' B F X N T hk hd hu hn post
  replace h1 := hn _ h1
  replace h2 := hn _ h2
  k_dflt (refine' sub_K ?k1 ?k2 ?k3 ?k4 ?k5 ?k6 ?_; (case k1 => k_asm); (case k2 => k_asm); (case k3 => k_inst); (case k4 => k_is); (case k5 => k_is); (case k6 => k_is); k_whole)
  refine wpAny_call ?_
  k_dflt cell_enter
  (repeat' (first
    | (k_unfold; (try dsimp only)) | (k_end; wrow_close)
    | ((with_reducible show wpAny _ _ (leaving _ (Value.ref _)) _ _ _); with_reducible (k_here; k_dflt (first | (refine' leave_madeP ?k1 (Heap.MadeExc.of (by assumption)) ?k2 ?k3 ?_ ?k6 ?k5; (case k6 => exact rfl); (case k2 => assumption); (case k1 => assumption); (case k3 => k_asm); (case k5 => exact rfl); k_whole; intro h' t' R' U'; (try dsimp only at U' ⊢)) | (refine' leave_indexP ?k1 ?k0 ?k2 ?k3 ?_ ?k6 ?k5; (case k6 => exact rfl); (case k0 => assumption); (case k2 => assumption); (case k1 => assumption); (case k3 => k_asm); (case k5 => exact rfl); k_whole; intro h' R' U'; (try dsimp only at U' ⊢)) | (refine' leave_faultP ?k1 ?k0 ?k2 ?k3 ?_ ?k6 ?k5; (case k6 => exact rfl); (case k0 => assumption); (case k2 => assumption); (case k1 => assumption); (case k3 => k_asm); (case k5 => exact rfl); k_whole; intro h' t' dx' t1' t2' R' U'; (try dsimp only at U' ⊢)) | (refine' leaveOnP rfl ?k0 ?k1 ?k2 ?k3 ?k4 ?_; (case k3 => assumption); (case k0 => exact XIs.still (by assumption)); (case k1 => assumption); (case k2 => assumption); (case k4 => assumption); k_whole; intro h' R' U'; (try dsimp only at U' ⊢)))))
    | ((with_reducible show Exists _); with_reducible (k_here; refine ⟨_, rfl, MadeFault.raisable (by assumption) (by assumption) (by assumption), ?_⟩))
    | (with_reducible ((with_reducible show _ ≤ sizeLine ∧ _); refine ⟨by decide, ?_⟩; intro h' e' hx'))
    | (with_reducible ((with_reducible show _ = _ ∧ _); refine ⟨rfl, ?_⟩; (try dsimp only)))
    | (with_reducible (k_here; (with_reducible show wpAny _ _ (exec (Stmt.Raise (some (Expr.Call (Expr.Name ("Fault" : Str) _) _ [] _)) none _) _) _ _ _); with_unfolding_all refine Raise_inst rfl ?_))
    | (with_reducible (k_here; (with_reducible show wpAny _ _ (exec (Stmt.Raise (some (Expr.Call (Expr.Name ("ValueError" : Str) _) _ [] _)) none _) _) _ _ _); with_unfolding_all refine Raise_madeB PySem.F.excCall_ValueError PySem.F.excRaise_ValueError rfl ?_))
    | (with_reducible (k_here; (with_reducible show wpAny _ _ (call (Value.ref _) [_, _] _) _ _ _); k_dflt (refine' call_fault ?k1 ?k2 ?k3 ?k4 ?k5 ?k6 ?_; (case k1 => k_asm); (case k2 => k_asm); (case k3 => exact rfl); (case k4 => exact rfl); (case k5 => (simp only [depth_mark, depth_under_make, depth_under_kw, depth_in1, depth_deeper]; (try dsimp only [ktrTop]); omega)); (case k6 => ((try dsimp only [ktrTop, Around.in1, Around.deeper]); omega)); k_whole; intro e' h' tk' hx')))
    | (with_reducible (k_here; (with_reducible show wpAny _ _ (subscriptTail _ _ (Value.ref _) (Value.str _ _)) _ _ _); k_dflt (first | (refine' dict_item ?k1 ?k2 ?k3 ?k4 ?_; (case k1 => k_asm); (case k2 => k_mem); (case k3 => assumption); (case k4 => assumption); k_whole) | (refine' dict_missing ?k1 ?k2 ?k3 ?k4 ?k5 ?k6 ?_; (case k1 => k_asm); (case k2 => k_mem); (case k3 => assumption); (case k4 => assumption); (case k5 => assumption); (case k6 => exact rfl); k_whole; intro h' e' hx'))))
    | (with_reducible (k_here; (with_reducible show wpAny _ _ (subscriptTail _ _ (Value.ref _) (Value.int _ _)) _ _ _); (with_reducible rename Yields _ _ _ _ _ _ => hY); k_dflt (refine' hY _ _ _ _ _ _ _ _ _ _ _ _ _ _ _ _ _ _ _ _ _ _ _ _ _ _ _ ?B ?F ?X ?N ?T ?hk ?hd ?hu ?hn ?post; (case B => k_asm); (case F => k_asm); (case X => k_asm); (case N => k_asm); (case T => k_asm); (case hk => exact rfl); (case hd => ((try dsimp only [ktrTop, Around.in1]); omega)); (case hu => ((try dsimp only [ktrTop, Around.in1]); omega)); (case hn => assumption)); (try clear hY); (try dsimp only)))
    | (with_reducible (k_here; (with_reducible show wpAny _ _ (subscriptTail _ _ (Value.ref _) (Value.int _ _)) _ _ _); k_dflt (refine' item_outK ?k0 ?k1 ?k2 ?k3 ?k4 ?_; (case k0 => exact rfl); (case k1 => exact News.isList (by k_asm) (by k_mem)); (case k2 => exact .inr (Int.le_refl _)); (case k3 => decide); (case k4 => decide); k_whole; intro h' tk' e' hx')))
    | (with_reducible (k_here; (with_reducible show wpAny _ _ (subscriptTail _ _ (Value.ref _) (Value.int _ _)) _ _ _); k_dflt (refine' item_at ?k1 ?k2 ?_; (case k1 => exact News.isList (by k_asm) (by k_mem)); (case k2 => with_reducible assumption); k_whole)))
    | walk1 | (dsimp only; walk1) | (leave1; (try dsimp only))))
  all_goals (first
    | exact post _ _ (by k_asm) (by k_asm)
    | exact post _ _ _ _ _ _ (XIs.value _ _) (by k_asm) (by k_asm) (by k_asm)
    | exact post _ _ _ _ _ _ (XIs.value _ _) (by k_asm) (by k_asm) (by k_asm)
    | exact post _ _ _ _ _ _ (XIs.fault _ _ _ _ _ _) (by k_asm) (by k_asm) (by k_asm)
    | exact post _ _ _ _ _ _ XIs.index (by k_asm) (by k_asm) (by k_asm)
    | exact post _ _ _ _ _ _ (by assumption) (by k_asm) (by k_asm) (by k_asm))
theorem step_str {x : Str} {tx : Tok} (hY : Yields w nw (.ref rr) i D (.val (.str x tx))) (h1 : (it, instObj 112 d) ∈ nw) (h2 : (d, dictOf [⟨PyData.keyHash w.params "results", .str "results" tk, .ref rr⟩] 1) ∈ nw)  : Yields w nw (.ref it) i (D + 1) (.exc .value) := by
  unfold Yields
  w_top off
  k_fill
  intro value sn sp ti dp un gd cn cs a' ccd cl outer A₀ base h₀ L m s Q E p loose mean mg mb nw' B F X N T hk hd hu hn post
  replace h1 := hn _ h1
  replace h2 := hn _ h2
  k_dflt (refine' sub_K ?k1 ?k2 ?k3 ?k4 ?k5 ?k6 ?_; (case k1 => k_asm); (case k2 => k_asm); (case k3 => k_inst); (case k4 => k_is); (case k5 => k_is); (case k6 => k_is); k_whole)
  refine wpAny_call ?_
  k_dflt cell_enter
  (repeat' (first
    | (k_unfold; (try dsimp only)) | (k_end; wrow_close)
    | ((with_reducible show wpAny _ _ (leaving _ (Value.ref _)) _ _ _); with_reducible (k_here; k_dflt (first | (refine' leave_madeP ?k1 (Heap.MadeExc.of (by assumption)) ?k2 ?k3 ?_ ?k6 ?k5; (case k6 => exact rfl); (case k2 => assumption); (case k1 => assumption); (case k3 => k_asm); (case k5 => exact rfl); k_whole; intro h' t' R' U'; (try dsimp only at U' ⊢)) | (refine' leave_indexP ?k1 ?k0 ?k2 ?k3 ?_ ?k6 ?k5; (case k6 => exact rfl); (case k0 => assumption); (case k2 => assumption); (case k1 => assumption); (case k3 => k_asm); (case k5 => exact rfl); k_whole; intro h' R' U'; (try dsimp only at U' ⊢)) | (refine' leave_faultP ?k1 ?k0 ?k2 ?k3 ?_ ?k6 ?k5; (case k6 => exact rfl); (case k0 => assumption); (case k2 => assumption); (case k1 => assumption); (case k3 => k_asm); (case k5 => exact rfl); k_whole; intro h' t' dx' t1' t2' R' U'; (try dsimp only at U' ⊢)) | (refine' leaveOnP rfl ?k0 ?k1 ?k2 ?k3 ?k4 ?_; (case k3 => assumption); (case k0 => exact XIs.still (by assumption)); (case k1 => assumption); (case k2 => assumption); (case k4 => assumption); k_whole; intro h' R' U'; (try dsimp only at U' ⊢)))))
    | ((with_reducible show Exists _); with_reducible (k_here; refine ⟨_, rfl, MadeFault.raisable (by assumption) (by assumption) (by assumption), ?_⟩))
    | (with_reducible ((with_reducible show _ ≤ sizeLine ∧ _); refine ⟨by decide, ?_⟩; intro h' e' hx'))
    | (with_reducible ((with_reducible show _ = _ ∧ _); refine ⟨rfl, ?_⟩; (try dsimp only)))
    | (with_reducible (k_here; (with_reducible show wpAny _ _ (exec (Stmt.Raise (some (Expr.Call (Expr.Name ("Fault" : Str) _) _ [] _)) none _) _) _ _ _); with_unfolding_all refine Raise_inst rfl ?_))
    | (with_reducible (k_here; (with_reducible show wpAny _ _ (exec (Stmt.Raise (some (Expr.Call (Expr.Name ("ValueError" : Str) _) _ [] _)) none _) _) _ _ _); with_unfolding_all refine Raise_madeB PySem.F.excCall_ValueError PySem.F.excRaise_ValueError rfl ?_))
    | (with_reducible (k_here; (with_reducible show wpAny _ _ (call (Value.ref _) [_, _] _) _ _ _); k_dflt (refine' call_fault ?k1 ?k2 ?k3 ?k4 ?k5 ?k6 ?_; (case k1 => k_asm); (case k2 => k_asm); (case k3 => exact rfl); (case k4 => exact rfl); (case k5 => (simp only [depth_mark, depth_under_make, depth_under_kw, depth_in1, depth_deeper]; (try dsimp only [ktrTop]); omega)); (case k6 => ((try dsimp only [ktrTop, Around.in1, Around.deeper]); omega)); k_whole; intro e' h' tk' hx')))
    | (with_reducible (k_here; (with_reducible show wpAny _ _ (subscriptTail _ _ (Value.ref _) (Value.str _ _)) _ _ _); k_dflt (first | (refine' dict_item ?k1 ?k2 ?k3 ?k4 ?_; (case k1 => k_asm); (case k2 => k_mem); (case k3 => assumption); (case k4 => assumption); k_whole) | (refine' dict_missing ?k1 ?k2 ?k3 ?k4 ?k5 ?k6 ?_; (case k1 => k_asm); (case k2 => k_mem); (case k3 => assumption); (case k4 => assumption); (case k5 => assumption); (case k6 => exact rfl); k_whole; intro h' e' hx'))))
    | (with_reducible (k_here; (with_reducible show wpAny _ _ (subscriptTail _ _ (Value.ref _) (Value.int _ _)) _ _ _); (with_reducible rename Yields _ _ _ _ _ _ => hY); k_dflt (refine' hY _ _ _ _ _ _ _ _ _ _ _ _ _ _ _ _ _ _ _ _ _ _ _ _ _ _ _ ?B ?F ?X ?N ?T ?hk ?hd ?hu ?hn ?post; (case B => k_asm); (case F => k_asm); (case X => k_asm); (case N => k_asm); (case T => k_asm); (case hk => exact rfl); (case hd => ((try dsimp only [ktrTop, Around.in1]); omega)); (case hu => ((try dsimp only [ktrTop, Around.in1]); omega)); (case hn => assumption)); (try clear hY); (try dsimp only)))
    | (with_reducible (k_here; (with_reducible show wpAny _ _ (subscriptTail _ _ (Value.ref _) (Value.int _ _)) _ _ _); k_dflt (refine' item_outK ?k0 ?k1 ?k2 ?k3 ?k4 ?_; (case k0 => exact rfl); (case k1 => exact News.isList (by k_asm) (by k_mem)); (case k2 => exact .inr (Int.le_refl _)); (case k3 => decide); (case k4 => decide); k_whole; intro h' tk' e' hx')))
    | (with_reducible (k_here; (with_reducible show wpAny _ _ (subscriptTail _ _ (Value.ref _) (Value.int _ _)) _ _ _); k_dflt (refine' item_at ?k1 ?k2 ?_; (case k1 => exact News.isList (by k_asm) (by k_mem)); (case k2 => with_reducible assumption); k_whole)))
    | walk1 | (dsimp only; walk1) | (leave1; (try dsimp only))))
  all_goals (first
    | exact post _ _ (by k_asm) (by k_asm)
    | exact post _ _ _ _ _ _ (XIs.value _ _) (by k_asm) (by k_asm) (by k_asm)
    | exact post _ _ _ _ _ _ (XIs.value _ _) (by k_asm) (by k_asm) (by k_asm)
    | exact post _ _ _ _ _ _ (XIs.fault _ _ _ _ _ _) (by k_asm) (by k_asm) (by k_asm)
    | exact post _ _ _ _ _ _ XIs.index (by k_asm) (by k_asm) (by k_asm)
    | exact post _ _ _ _ _ _ (by assumption) (by k_asm) (by k_asm) (by k_asm))
theorem step_none  (hY : Yields w nw (.ref rr) i D (.val .none)) (h1 : (it, instObj 112 d) ∈ nw) (h2 : (d, dictOf [⟨PyData.keyHash w.params "results", .str "results" tk, .ref rr⟩] 1) ∈ nw)  : Yields w nw (.ref it) i (D + 1) (.exc .value) := by
  unfold Yields
  w_top off
  k_fill
  intro value sn sp ti dp un gd cn cs a' ccd cl outer A₀ base h₀ L m s Q E p loose mean mg mb nw' B F X N T hk hd hu hn post
  replace h1 := hn _ h1
  replace h2 := hn _ h2
  k_dflt (refine' sub_K ?k1 ?k2 ?k3 ?k4 ?k5 ?k6 ?_; (case k1 => k_asm); (case k2 => k_asm); (case k3 => k_inst); (case k4 => k_is); (case k5 => k_is); (case k6 => k_is); k_whole)
  refine wpAny_call ?_
  k_dflt cell_enter
  (repeat' (first
    | (k_unfold; (try dsimp only)) | (k_end; wrow_close)
    | ((with_reducible show wpAny _ _ (leaving _ (Value.ref _)) _ _ _); with_reducible (k_here; k_dflt (first | (refine' leave_madeP ?k1 (Heap.MadeExc.of (by assumption)) ?k2 ?k3 ?_ ?k6 ?k5; (case k6 => exact rfl); (case k2 => assumption); (case k1 => assumption); (case k3 => k_asm); (case k5 => exact rfl); k_whole; intro h' t' R' U'; (try dsimp only at U' ⊢)) | (refine' leave_indexP ?k1 ?k0 ?k2 ?k3 ?_ ?k6 ?k5; (case k6 => exact rfl); (case k0 => assumption); (case k2 => assumption); (case k1 => assumption); (case k3 => k_asm); (case k5 => exact rfl); k_whole; intro h' R' U'; (try dsimp only at U' ⊢)) | (refine' leave_faultP ?k1 ?k0 ?k2 ?k3 ?_ ?k6 ?k5; (case k6 => exact rfl); (case k0 => assumption); (case k2 => assumption); (case k1 => assumption); (case k3 => k_asm); (case k5 => exact rfl); k_whole; intro h' t' dx' t1' t2' R' U'; (try dsimp only at U' ⊢)) | (refine' leaveOnP rfl ?k0 ?k1 ?k2 ?k3 ?k4 ?_; (case k3 => assumption); (case k0 => exact XIs.still (by assumption)); (case k1 => assumption); (case k2 => assumption); (case k4 => assumption); k_whole; intro h' R' U'; (try dsimp only at U' ⊢)))))
    | ((with_reducible show Exists _); with_reducible (k_here; refine ⟨_, rfl, MadeFault.raisable (by assumption) (by assumption) (by assumption), ?_⟩))
    | (with_reducible ((with_reducible show _ ≤ sizeLine ∧ _); refine ⟨by decide, ?_⟩; intro h' e' hx'))
    | (with_reducible ((with_reducible show _ = _ ∧ _); refine ⟨rfl, ?_⟩; (try dsimp only)))
    | (with_reducible (k_here; (with_reducible show wpAny _ _ (exec (Stmt.Raise (some (Expr.Call (Expr.Name ("Fault" : Str) _) _ [] _)) none _) _) _ _ _); with_unfolding_all refine Raise_inst rfl ?_))
    | (with_reducible (k_here; (with_reducible show wpAny _ _ (exec (Stmt.Raise (some (Expr.Call (Expr.Name ("ValueError" : Str) _) _ [] _)) none _) _) _ _ _); with_unfolding_all refine Raise_madeB PySem.F.excCall_ValueError PySem.F.excRaise_ValueError rfl ?_))
    | (with_reducible (k_here; (with_reducible show wpAny _ _ (call (Value.ref _) [_, _] _) _ _ _); k_dflt (refine' call_fault ?k1 ?k2 ?k3 ?k4 ?k5 ?k6 ?_; (case k1 => k_asm); (case k2 => k_asm); (case k3 => exact rfl); (case k4 => exact rfl); (case k5 => (simp only [depth_mark, depth_under_make, depth_under_kw, depth_in1, depth_deeper]; (try dsimp only [ktrTop]); omega)); (case k6 => ((try dsimp only [ktrTop, Around.in1, Around.deeper]); omega)); k_whole; intro e' h' tk' hx')))
    | (with_reducible (k_here; (with_reducible show wpAny _ _ (subscriptTail _ _ (Value.ref _) (Value.str _ _)) _ _ _); k_dflt (first | (refine' dict_item ?k1 ?k2 ?k3 ?k4 ?_; (case k1 => k_asm); (case k2 => k_mem); (case k3 => assumption); (case k4 => assumption); k_whole) | (refine' dict_missing ?k1 ?k2 ?k3 ?k4 ?k5 ?k6 ?_; (case k1 => k_asm); (case k2 => k_mem); (case k3 => assumption); (case k4 => assumption); (case k5 => assumption); (case k6 => exact rfl); k_whole; intro h' e' hx'))))
    | (with_reducible (k_here; (with_reducible show wpAny _ _ (subscriptTail _ _ (Value.ref _) (Value.int _ _)) _ _ _); (with_reducible rename Yields _ _ _ _ _ _ => hY); k_dflt (refine' hY _ _ _ _ _ _ _ _ _ _ _ _ _ _ _ _ _ _ _ _ _ _ _ _ _ _ _ ?B ?F ?X ?N ?T ?hk ?hd ?hu ?hn ?post; (case B => k_asm); (case F => k_asm); (case X => k_asm); (case N => k_asm); (case T => k_asm); (case hk => exact rfl); (case hd => ((try dsimp only [ktrTop, Around.in1]); omega)); (case hu => ((try dsimp only [ktrTop, Around.in1]); omega)); (case hn => assumption)); (try clear hY); (try dsimp only)))
    | (with_reducible (k_here; (with_reducible show wpAny _ _ (subscriptTail _ _ (Value.ref _) (Value.int _ _)) _ _ _); k_dflt (refine' item_outK ?k0 ?k1 ?k2 ?k3 ?k4 ?_; (case k0 => exact rfl); (case k1 => exact News.isList (by k_asm) (by k_mem)); (case k2 => exact .inr (Int.le_refl _)); (case k3 => decide); (case k4 => decide); k_whole; intro h' tk' e' hx')))
    | (with_reducible (k_here; (with_reducible show wpAny _ _ (subscriptTail _ _ (Value.ref _) (Value.int _ _)) _ _ _); k_dflt (refine' item_at ?k1 ?k2 ?_; (case k1 => exact News.isList (by k_asm) (by k_mem)); (case k2 => with_reducible assumption); k_whole)))
    | walk1 | (dsimp only; walk1) | (leave1; (try dsimp only))))
  all_goals (first
    | exact post _ _ (by k_asm) (by k_asm)
    | exact post _ _ _ _ _ _ (XIs.value _ _) (by k_asm) (by k_asm) (by k_asm)
    | exact post _ _ _ _ _ _ (XIs.value _ _) (by k_asm) (by k_asm) (by k_asm)
    | exact post _ _ _ _ _ _ (XIs.fault _ _ _ _ _ _) (by k_asm) (by k_asm) (by k_asm)
    | exact post _ _ _ _ _ _ XIs.index (by k_asm) (by k_asm) (by k_asm)
    | exact post _ _ _ _ _ _ (by assumption) (by k_asm) (by k_asm) (by k_asm))
theorem step_tuple  (hY : Yields w nw (.ref rr) i D (.val (.ref a))) (h1 : (it, instObj 112 d) ∈ nw) (h2 : (d, dictOf [⟨PyData.keyHash w.params "results", .str "results" tk, .ref rr⟩] 1) ∈ nw) (h3 : (a, tupOf vs) ∈ nw) : Yields w nw (.ref it) i (D + 1) (.exc .value) := by
  unfold Yields
  w_top off
  k_fill
  intro value sn sp ti dp un gd cn cs a' ccd cl outer A₀ base h₀ L m s Q E p loose mean mg mb nw' B F X N T hk hd hu hn post
  replace h1 := hn _ h1
  replace h2 := hn _ h2
  replace h3 := hn _ h3
  k_dflt (refine' sub_K ?k1 ?k2 ?k3 ?k4 ?k5 ?k6 ?_; (case k1 => k_asm); (case k2 => k_asm); (case k3 => k_inst); (case k4 => k_is); (case k5 => k_is); (case k6 => k_is); k_whole)
  refine wpAny_call ?_
  k_dflt cell_enter
  (repeat' (first
    | (k_unfold; (try dsimp only)) | (k_end; wrow_close)
    | ((with_reducible show wpAny _ _ (leaving _ (Value.ref _)) _ _ _); with_reducible (k_here; k_dflt (first | (refine' leave_madeP ?k1 (Heap.MadeExc.of (by assumption)) ?k2 ?k3 ?_ ?k6 ?k5; (case k6 => exact rfl); (case k2 => assumption); (case k1 => assumption); (case k3 => k_asm); (case k5 => exact rfl); k_whole; intro h' t' R' U'; (try dsimp only at U' ⊢)) | (refine' leave_indexP ?k1 ?k0 ?k2 ?k3 ?_ ?k6 ?k5; (case k6 => exact rfl); (case k0 => assumption); (case k2 => assumption); (case k1 => assumption); (case k3 => k_asm); (case k5 => exact rfl); k_whole; intro h' R' U'; (try dsimp only at U' ⊢)) | (refine' leave_faultP ?k1 ?k0 ?k2 ?k3 ?_ ?k6 ?k5; (case k6 => exact rfl); (case k0 => assumption); (case k2 => assumption); (case k1 => assumption); (case k3 => k_asm); (case k5 => exact rfl); k_whole; intro h' t' dx' t1' t2' R' U'; (try dsimp only at U' ⊢)) | (refine' leaveOnP rfl ?k0 ?k1 ?k2 ?k3 ?k4 ?_; (case k3 => assumption); (case k0 => exact XIs.still (by assumption)); (case k1 => assumption); (case k2 => assumption); (case k4 => assumption); k_whole; intro h' R' U'; (try dsimp only at U' ⊢)))))
    | ((with_reducible show Exists _); with_reducible (k_here; refine ⟨_, rfl, MadeFault.raisable (by assumption) (by assumption) (by assumption), ?_⟩))
    | (with_reducible ((with_reducible show _ ≤ sizeLine ∧ _); refine ⟨by decide, ?_⟩; intro h' e' hx'))
    | (with_reducible ((with_reducible show _ = _ ∧ _); refine ⟨rfl, ?_⟩; (try dsimp only)))
    | (with_reducible (k_here; (with_reducible show wpAny _ _ (exec (Stmt.Raise (some (Expr.Call (Expr.Name ("Fault" : Str) _) _ [] _)) none _) _) _ _ _); with_unfolding_all refine Raise_inst rfl ?_))
    | (with_reducible (k_here; (with_reducible show wpAny _ _ (exec (Stmt.Raise (some (Expr.Call (Expr.Name ("ValueError" : Str) _) _ [] _)) none _) _) _ _ _); with_unfolding_all refine Raise_madeB PySem.F.excCall_ValueError PySem.F.excRaise_ValueError rfl ?_))
    | (with_reducible (k_here; (with_reducible show wpAny _ _ (call (Value.ref _) [_, _] _) _ _ _); k_dflt (refine' call_fault ?k1 ?k2 ?k3 ?k4 ?k5 ?k6 ?_; (case k1 => k_asm); (case k2 => k_asm); (case k3 => exact rfl); (case k4 => exact rfl); (case k5 => (simp only [depth_mark, depth_under_make, depth_under_kw, depth_in1, depth_deeper]; (try dsimp only [ktrTop]); omega)); (case k6 => ((try dsimp only [ktrTop, Around.in1, Around.deeper]); omega)); k_whole; intro e' h' tk' hx')))
    | (with_reducible (k_here; (with_reducible show wpAny _ _ (subscriptTail _ _ (Value.ref _) (Value.str _ _)) _ _ _); k_dflt (first | (refine' dict_item ?k1 ?k2 ?k3 ?k4 ?_; (case k1 => k_asm); (case k2 => k_mem); (case k3 => assumption); (case k4 => assumption); k_whole) | (refine' dict_missing ?k1 ?k2 ?k3 ?k4 ?k5 ?k6 ?_; (case k1 => k_asm); (case k2 => k_mem); (case k3 => assumption); (case k4 => assumption); (case k5 => assumption); (case k6 => exact rfl); k_whole; intro h' e' hx'))))
    | (with_reducible (k_here; (with_reducible show wpAny _ _ (subscriptTail _ _ (Value.ref _) (Value.int _ _)) _ _ _); (with_reducible rename Yields _ _ _ _ _ _ => hY); k_dflt (refine' hY _ _ _ _ _ _ _ _ _ _ _ _ _ _ _ _ _ _ _ _ _ _ _ _ _ _ _ ?B ?F ?X ?N ?T ?hk ?hd ?hu ?hn ?post; (case B => k_asm); (case F => k_asm); (case X => k_asm); (case N => k_asm); (case T => k_asm); (case hk => exact rfl); (case hd => ((try dsimp only [ktrTop, Around.in1]); omega)); (case hu => ((try dsimp only [ktrTop, Around.in1]); omega)); (case hn => assumption)); (try clear hY); (try dsimp only)))
    | (with_reducible (k_here; (with_reducible show wpAny _ _ (subscriptTail _ _ (Value.ref _) (Value.int _ _)) _ _ _); k_dflt (refine' item_outK ?k0 ?k1 ?k2 ?k3 ?k4 ?_; (case k0 => exact rfl); (case k1 => exact News.isList (by k_asm) (by k_mem)); (case k2 => exact .inr (Int.le_refl _)); (case k3 => decide); (case k4 => decide); k_whole; intro h' tk' e' hx')))
    | (with_reducible (k_here; (with_reducible show wpAny _ _ (subscriptTail _ _ (Value.ref _) (Value.int _ _)) _ _ _); k_dflt (refine' item_at ?k1 ?k2 ?_; (case k1 => exact News.isList (by k_asm) (by k_mem)); (case k2 => with_reducible assumption); k_whole)))
    | walk1 | (dsimp only; walk1) | (leave1; (try dsimp only))))
  all_goals (first
    | exact post _ _ (by k_asm) (by k_asm)
    | exact post _ _ _ _ _ _ (XIs.value _ _) (by k_asm) (by k_asm) (by k_asm)
    | exact post _ _ _ _ _ _ (XIs.value _ _) (by k_asm) (by k_asm) (by k_asm)
    | exact post _ _ _ _ _ _ (XIs.fault _ _ _ _ _ _) (by k_asm) (by k_asm) (by k_asm)
    | exact post _ _ _ _ _ _ XIs.index (by k_asm) (by k_asm) (by k_asm)
    | exact post _ _ _ _ _ _ (by assumption) (by k_asm) (by k_asm) (by k_asm))
theorem step_list {x : Value} (hY : Yields w nw (.ref rr) i D (.val (.ref a))) (h1 : (it, instObj 112 d) ∈ nw) (h2 : (d, dictOf [⟨PyData.keyHash w.params "results", .str "results" tk, .ref rr⟩] 1) ∈ nw) (h3 : (a, listOf vs n) ∈ nw) (h4 : At vs 0 x) : Yields w nw (.ref it) i (D + 1) (.val x) := by
  unfold Yields
  w_top off
  k_fill
  intro value sn sp ti dp un gd cn cs a' ccd cl outer A₀ base h₀ L m s Q E p loose mean mg mb nw' B F X N T hk hd hu hn post
  replace h1 := hn _ h1
  replace h2 := hn _ h2
  replace h3 := hn _ h3
  k_dflt (refine' sub_K ?k1 ?k2 ?k3 ?k4 ?k5 ?k6 ?_; (case k1 => k_asm); (case k2 => k_asm); (case k3 => k_inst); (case k4 => k_is); (case k5 => k_is); (case k6 => k_is); k_whole)
  refine wpAny_call ?_
  k_dflt cell_enter
  (repeat' (first
    | (k_unfold; (try dsimp only)) | (k_end; wrow_close)
    | ((with_reducible show wpAny _ _ (leaving _ (Value.ref _)) _ _ _); with_reducible (k_here; k_dflt (first | (refine' leave_madeP ?k1 (Heap.MadeExc.of (by assumption)) ?k2 ?k3 ?_ ?k6 ?k5; (case k6 => exact rfl); (case k2 => assumption); (case k1 => assumption); (case k3 => k_asm); (case k5 => exact rfl); k_whole; intro h' t' R' U'; (try dsimp only at U' ⊢)) | (refine' leave_indexP ?k1 ?k0 ?k2 ?k3 ?_ ?k6 ?k5; (case k6 => exact rfl); (case k0 => assumption); (case k2 => assumption); (case k1 => assumption); (case k3 => k_asm); (case k5 => exact rfl); k_whole; intro h' R' U'; (try dsimp only at U' ⊢)) | (refine' leave_faultP ?k1 ?k0 ?k2 ?k3 ?_ ?k6 ?k5; (case k6 => exact rfl); (case k0 => assumption); (case k2 => assumption); (case k1 => assumption); (case k3 => k_asm); (case k5 => exact rfl); k_whole; intro h' t' dx' t1' t2' R' U'; (try dsimp only at U' ⊢)) | (refine' leaveOnP rfl ?k0 ?k1 ?k2 ?k3 ?k4 ?_; (case k3 => assumption); (case k0 => exact XIs.still (by assumption)); (case k1 => assumption); (case k2 => assumption); (case k4 => assumption); k_whole; intro h' R' U'; (try dsimp only at U' ⊢)))))
    | ((with_reducible show Exists _); with_reducible (k_here; refine ⟨_, rfl, MadeFault.raisable (by assumption) (by assumption) (by assumption), ?_⟩))
    | (with_reducible ((with_reducible show _ ≤ sizeLine ∧ _); refine ⟨by decide, ?_⟩; intro h' e' hx'))
    | (with_reducible ((with_reducible show _ = _ ∧ _); refine ⟨rfl, ?_⟩; (try dsimp only)))
    | (with_reducible (k_here; (with_reducible show wpAny _ _ (exec (Stmt.Raise (some (Expr.Call (Expr.Name ("Fault" : Str) _) _ [] _)) none _) _) _ _ _); with_unfolding_all refine Raise_inst rfl ?_))
    | (with_reducible (k_here; (with_reducible show wpAny _ _ (exec (Stmt.Raise (some (Expr.Call (Expr.Name ("ValueError" : Str) _) _ [] _)) none _) _) _ _ _); with_unfolding_all refine Raise_madeB PySem.F.excCall_ValueError PySem.F.excRaise_ValueError rfl ?_))
    | (with_reducible (k_here; (with_reducible show wpAny _ _ (call (Value.ref _) [_, _] _) _ _ _); k_dflt (refine' call_fault ?k1 ?k2 ?k3 ?k4 ?k5 ?k6 ?_; (case k1 => k_asm); (case k2 => k_asm); (case k3 => exact rfl); (case k4 => exact rfl); (case k5 => (simp only [depth_mark, depth_under_make, depth_under_kw, depth_in1, depth_deeper]; (try dsimp only [ktrTop]); omega)); (case k6 => ((try dsimp only [ktrTop, Around.in1, Around.deeper]); omega)); k_whole; intro e' h' tk' hx')))
    | (with_reducible (k_here; (with_reducible show wpAny _ _ (subscriptTail _ _ (Value.ref _) (Value.str _ _)) _ _ _); k_dflt (first | (refine' dict_item ?k1 ?k2 ?k3 ?k4 ?_; (case k1 => k_asm); (case k2 => k_mem); (case k3 => assumption); (case k4 => assumption); k_whole) | (refine' dict_missing ?k1 ?k2 ?k3 ?k4 ?k5 ?k6 ?_; (case k1 => k_asm); (case k2 => k_mem); (case k3 => assumption); (case k4 => assumption); (case k5 => assumption); (case k6 => exact rfl); k_whole; intro h' e' hx'))))
    | (with_reducible (k_here; (with_reducible show wpAny _ _ (subscriptTail _ _ (Value.ref _) (Value.int _ _)) _ _ _); (with_reducible rename Yields _ _ _ _ _ _ => hY); k_dflt (refine' hY _ _ _ _ _ _ _ _ _ _ _ _ _ _ _ _ _ _ _ _ _ _ _ _ _ _ _ ?B ?F ?X ?N ?T ?hk ?hd ?hu ?hn ?post; (case B => k_asm); (case F => k_asm); (case X => k_asm); (case N => k_asm); (case T => k_asm); (case hk => exact rfl); (case hd => ((try dsimp only [ktrTop, Around.in1]); omega)); (case hu => ((try dsimp only [ktrTop, Around.in1]); omega)); (case hn => assumption)); (try clear hY); (try dsimp only)))
    | (with_reducible (k_here; (with_reducible show wpAny _ _ (subscriptTail _ _ (Value.ref _) (Value.int _ _)) _ _ _); k_dflt (refine' item_outK ?k0 ?k1 ?k2 ?k3 ?k4 ?_; (case k0 => exact rfl); (case k1 => exact News.isList (by k_asm) (by k_mem)); (case k2 => exact .inr (Int.le_refl _)); (case k3 => decide); (case k4 => decide); k_whole; intro h' tk' e' hx')))
    | (with_reducible (k_here; (with_reducible show wpAny _ _ (subscriptTail _ _ (Value.ref _) (Value.int _ _)) _ _ _); k_dflt (refine' item_at ?k1 ?k2 ?_; (case k1 => exact News.isList (by k_asm) (by k_mem)); (case k2 => with_reducible assumption); k_whole)))
    | walk1 | (dsimp only; walk1) | (leave1; (try dsimp only))))
  all_goals (first
    | exact post _ _ (by k_asm) (by k_asm)
    | exact post _ _ _ _ _ _ (XIs.value _ _) (by k_asm) (by k_asm) (by k_asm)
    | exact post _ _ _ _ _ _ (XIs.value _ _) (by k_asm) (by k_asm) (by k_asm)
    | exact post _ _ _ _ _ _ (XIs.fault _ _ _ _ _ _) (by k_asm) (by k_asm) (by k_asm)
    | exact post _ _ _ _ _ _ XIs.index (by k_asm) (by k_asm) (by k_asm)
    | exact post _ _ _ _ _ _ (by assumption) (by k_asm) (by k_asm) (by k_asm))
theorem step_fault {c v : Value} (hY : Yields w nw (.ref rr) i D (.val (.ref a))) (h1 : (it, instObj 112 d) ∈ nw) (h2 : (d, dictOf [⟨PyData.keyHash w.params "results", .str "results" tk, .ref rr⟩] 1) ∈ nw) (h3 : (a, dictOf es n) ∈ nw) (h4 : KeysLit w.params es) (h5 : getL "faultCode" es = some (some c)) (h5' : getL "faultString" es = some (some v)) : Yields w nw (.ref it) i (D + 1) (.exc (.fault c v)) := by
  unfold Yields
  w_top off
  k_fill
  intro value sn sp ti dp un gd cn cs a' ccd cl outer A₀ base h₀ L m s Q E p loose mean mg mb nw' B F X N T hk hd hu hn post
  replace h1 := hn _ h1
  replace h2 := hn _ h2
  replace h3 := hn _ h3
  k_dflt (refine' sub_K ?k1 ?k2 ?k3 ?k4 ?k5 ?k6 ?_; (case k1 => k_asm); (case k2 => k_asm); (case k3 => k_inst); (case k4 => k_is); (case k5 => k_is); (case k6 => k_is); k_whole)
  refine wpAny_call ?_
  k_dflt cell_enter
  (repeat' (first
    | (k_unfold; (try dsimp only)) | (k_end; wrow_close)
    | ((with_reducible show wpAny _ _ (leaving _ (Value.ref _)) _ _ _); with_reducible (k_here; k_dflt (first | (refine' leave_madeP ?k1 (Heap.MadeExc.of (by assumption)) ?k2 ?k3 ?_ ?k6 ?k5; (case k6 => exact rfl); (case k2 => assumption); (case k1 => assumption); (case k3 => k_asm); (case k5 => exact rfl); k_whole; intro h' t' R' U'; (try dsimp only at U' ⊢)) | (refine' leave_indexP ?k1 ?k0 ?k2 ?k3 ?_ ?k6 ?k5; (case k6 => exact rfl); (case k0 => assumption); (case k2 => assumption); (case k1 => assumption); (case k3 => k_asm); (case k5 => exact rfl); k_whole; intro h' R' U'; (try dsimp only at U' ⊢)) | (refine' leave_faultP ?k1 ?k0 ?k2 ?k3 ?_ ?k6 ?k5; (case k6 => exact rfl); (case k0 => assumption); (case k2 => assumption); (case k1 => assumption); (case k3 => k_asm); (case k5 => exact rfl); k_whole; intro h' t' dx' t1' t2' R' U'; (try dsimp only at U' ⊢)) | (refine' leaveOnP rfl ?k0 ?k1 ?k2 ?k3 ?k4 ?_; (case k3 => assumption); (case k0 => exact XIs.still (by assumption)); (case k1 => assumption); (case k2 => assumption); (case k4 => assumption); k_whole; intro h' R' U'; (try dsimp only at U' ⊢)))))
    | ((with_reducible show Exists _); with_reducible (k_here; refine ⟨_, rfl, MadeFault.raisable (by assumption) (by assumption) (by assumption), ?_⟩))
    | (with_reducible ((with_reducible show _ ≤ sizeLine ∧ _); refine ⟨by decide, ?_⟩; intro h' e' hx'))
    | (with_reducible ((with_reducible show _ = _ ∧ _); refine ⟨rfl, ?_⟩; (try dsimp only)))
    | (with_reducible (k_here; (with_reducible show wpAny _ _ (exec (Stmt.Raise (some (Expr.Call (Expr.Name ("Fault" : Str) _) _ [] _)) none _) _) _ _ _); with_unfolding_all refine Raise_inst rfl ?_))
    | (with_reducible (k_here; (with_reducible show wpAny _ _ (exec (Stmt.Raise (some (Expr.Call (Expr.Name ("ValueError" : Str) _) _ [] _)) none _) _) _ _ _); with_unfolding_all refine Raise_madeB PySem.F.excCall_ValueError PySem.F.excRaise_ValueError rfl ?_))
    | (with_reducible (k_here; (with_reducible show wpAny _ _ (call (Value.ref _) [_, _] _) _ _ _); k_dflt (refine' call_fault ?k1 ?k2 ?k3 ?k4 ?k5 ?k6 ?_; (case k1 => k_asm); (case k2 => k_asm); (case k3 => exact rfl); (case k4 => exact rfl); (case k5 => (simp only [depth_mark, depth_under_make, depth_under_kw, depth_in1, depth_deeper]; (try dsimp only [ktrTop]); omega)); (case k6 => ((try dsimp only [ktrTop, Around.in1, Around.deeper]); omega)); k_whole; intro e' h' tk' hx')))
    | (with_reducible (k_here; (with_reducible show wpAny _ _ (subscriptTail _ _ (Value.ref _) (Value.str _ _)) _ _ _); k_dflt (first | (refine' dict_item ?k1 ?k2 ?k3 ?k4 ?_; (case k1 => k_asm); (case k2 => k_mem); (case k3 => assumption); (case k4 => assumption); k_whole) | (refine' dict_missing ?k1 ?k2 ?k3 ?k4 ?k5 ?k6 ?_; (case k1 => k_asm); (case k2 => k_mem); (case k3 => assumption); (case k4 => assumption); (case k5 => assumption); (case k6 => exact rfl); k_whole; intro h' e' hx'))))
    | (with_reducible (k_here; (with_reducible show wpAny _ _ (subscriptTail _ _ (Value.ref _) (Value.int _ _)) _ _ _); (with_reducible rename Yields _ _ _ _ _ _ => hY); k_dflt (refine' hY _ _ _ _ _ _ _ _ _ _ _ _ _ _ _ _ _ _ _ _ _ _ _ _ _ _ _ ?B ?F ?X ?N ?T ?hk ?hd ?hu ?hn ?post; (case B => k_asm); (case F => k_asm); (case X => k_asm); (case N => k_asm); (case T => k_asm); (case hk => exact rfl); (case hd => ((try dsimp only [ktrTop, Around.in1]); omega)); (case hu => ((try dsimp only [ktrTop, Around.in1]); omega)); (case hn => assumption)); (try clear hY); (try dsimp only)))
    | (with_reducible (k_here; (with_reducible show wpAny _ _ (subscriptTail _ _ (Value.ref _) (Value.int _ _)) _ _ _); k_dflt (refine' item_outK ?k0 ?k1 ?k2 ?k3 ?k4 ?_; (case k0 => exact rfl); (case k1 => exact News.isList (by k_asm) (by k_mem)); (case k2 => exact .inr (Int.le_refl _)); (case k3 => decide); (case k4 => decide); k_whole; intro h' tk' e' hx')))
    | (with_reducible (k_here; (with_reducible show wpAny _ _ (subscriptTail _ _ (Value.ref _) (Value.int _ _)) _ _ _); k_dflt (refine' item_at ?k1 ?k2 ?_; (case k1 => exact News.isList (by k_asm) (by k_mem)); (case k2 => with_reducible assumption); k_whole)))
    | walk1 | (dsimp only; walk1) | (leave1; (try dsimp only))))
  all_goals (first
    | exact post _ _ (by k_asm) (by k_asm)
    | exact post _ _ _ _ _ _ (XIs.value _ _) (by k_asm) (by k_asm) (by k_asm)
    | exact post _ _ _ _ _ _ (XIs.value _ _) (by k_asm) (by k_asm) (by k_asm)
    | exact post _ _ _ _ _ _ (XIs.fault _ _ _ _ _ _) (by k_asm) (by k_asm) (by k_asm)
    | exact post _ _ _ _ _ _ XIs.index (by k_asm) (by k_asm) (by k_asm)
    | exact post _ _ _ _ _ _ (by assumption) (by k_asm) (by k_asm) (by k_asm))
theorem step_exc {k : XK} (hY : Yields w nw (.ref rr) i D (.exc k)) (h1 : (it, instObj 112 d) ∈ nw) (h2 : (d, dictOf [⟨PyData.keyHash w.params "results", .str "results" tk, .ref rr⟩] 1) ∈ nw)  : Yields w nw (.ref it) i (D + 1) (.exc k) := by
  unfold Yields
  w_top off
  k_fill
  intro value sn sp ti dp un gd cn cs a' ccd cl outer A₀ base h₀ L m s Q E p loose mean mg mb nw' B F X N T hk hd hu hn post
  replace h1 := hn _ h1
  replace h2 := hn _ h2
  k_dflt (refine' sub_K ?k1 ?k2 ?k3 ?k4 ?k5 ?k6 ?_; (case k1 => k_asm); (case k2 => k_asm); (case k3 => k_inst); (case k4 => k_is); (case k5 => k_is); (case k6 => k_is); k_whole)
  refine wpAny_call ?_
  k_dflt cell_enter
  (repeat' (first
    | (k_unfold; (try dsimp only)) | (k_end; wrow_close)
    | ((with_reducible show wpAny _ _ (leaving _ (Value.ref _)) _ _ _); with_reducible (k_here; k_dflt (first | (refine' leave_madeP ?k1 (Heap.MadeExc.of (by assumption)) ?k2 ?k3 ?_ ?k6 ?k5; (case k6 => exact rfl); (case k2 => assumption); (case k1 => assumption); (case k3 => k_asm); (case k5 => exact rfl); k_whole; intro h' t' R' U'; (try dsimp only at U' ⊢)) | (refine' leave_indexP ?k1 ?k0 ?k2 ?k3 ?_ ?k6 ?k5; (case k6 => exact rfl); (case k0 => assumption); (case k2 => assumption); (case k1 => assumption); (case k3 => k_asm); (case k5 => exact rfl); k_whole; intro h' R' U'; (try dsimp only at U' ⊢)) | (refine' leave_faultP ?k1 ?k0 ?k2 ?k3 ?_ ?k6 ?k5; (case k6 => exact rfl); (case k0 => assumption); (case k2 => assumption); (case k1 => assumption); (case k3 => k_asm); (case k5 => exact rfl); k_whole; intro h' t' dx' t1' t2' R' U'; (try dsimp only at U' ⊢)) | (refine' leaveOnP rfl ?k0 ?k1 ?k2 ?k3 ?k4 ?_; (case k3 => assumption); (case k0 => exact XIs.still (by assumption)); (case k1 => assumption); (case k2 => assumption); (case k4 => assumption); k_whole; intro h' R' U'; (try dsimp only at U' ⊢)))))
    | ((with_reducible show Exists _); with_reducible (k_here; refine ⟨_, rfl, MadeFault.raisable (by assumption) (by assumption) (by assumption), ?_⟩))
    | (with_reducible ((with_reducible show _ ≤ sizeLine ∧ _); refine ⟨by decide, ?_⟩; intro h' e' hx'))
    | (with_reducible ((with_reducible show _ = _ ∧ _); refine ⟨rfl, ?_⟩; (try dsimp only)))
    | (with_reducible (k_here; (with_reducible show wpAny _ _ (exec (Stmt.Raise (some (Expr.Call (Expr.Name ("Fault" : Str) _) _ [] _)) none _) _) _ _ _); with_unfolding_all refine Raise_inst rfl ?_))
    | (with_reducible (k_here; (with_reducible show wpAny _ _ (exec (Stmt.Raise (some (Expr.Call (Expr.Name ("ValueError" : Str) _) _ [] _)) none _) _) _ _ _); with_unfolding_all refine Raise_madeB PySem.F.excCall_ValueError PySem.F.excRaise_ValueError rfl ?_))
    | (with_reducible (k_here; (with_reducible show wpAny _ _ (call (Value.ref _) [_, _] _) _ _ _); k_dflt (refine' call_fault ?k1 ?k2 ?k3 ?k4 ?k5 ?k6 ?_; (case k1 => k_asm); (case k2 => k_asm); (case k3 => exact rfl); (case k4 => exact rfl); (case k5 => (simp only [depth_mark, depth_under_make, depth_under_kw, depth_in1, depth_deeper]; (try dsimp only [ktrTop]); omega)); (case k6 => ((try dsimp only [ktrTop, Around.in1, Around.deeper]); omega)); k_whole; intro e' h' tk' hx')))
    | (with_reducible (k_here; (with_reducible show wpAny _ _ (subscriptTail _ _ (Value.ref _) (Value.str _ _)) _ _ _); k_dflt (first | (refine' dict_item ?k1 ?k2 ?k3 ?k4 ?_; (case k1 => k_asm); (case k2 => k_mem); (case k3 => assumption); (case k4 => assumption); k_whole) | (refine' dict_missing ?k1 ?k2 ?k3 ?k4 ?k5 ?k6 ?_; (case k1 => k_asm); (case k2 => k_mem); (case k3 => assumption); (case k4 => assumption); (case k5 => assumption); (case k6 => exact rfl); k_whole; intro h' e' hx'))))
    | (with_reducible (k_here; (with_reducible show wpAny _ _ (subscriptTail _ _ (Value.ref _) (Value.int _ _)) _ _ _); (with_reducible rename Yields _ _ _ _ _ _ => hY); k_dflt (refine' hY _ _ _ _ _ _ _ _ _ _ _ _ _ _ _ _ _ _ _ _ _ _ _ _ _ _ _ ?B ?F ?X ?N ?T ?hk ?hd ?hu ?hn ?post; (case B => k_asm); (case F => k_asm); (case X => k_asm); (case N => k_asm); (case T => k_asm); (case hk => exact rfl); (case hd => ((try dsimp only [ktrTop, Around.in1]); omega)); (case hu => ((try dsimp only [ktrTop, Around.in1]); omega)); (case hn => assumption)); (try clear hY); (try dsimp only)))
    | (with_reducible (k_here; (with_reducible show wpAny _ _ (subscriptTail _ _ (Value.ref _) (Value.int _ _)) _ _ _); k_dflt (refine' item_outK ?k0 ?k1 ?k2 ?k3 ?k4 ?_; (case k0 => exact rfl); (case k1 => exact News.isList (by k_asm) (by k_mem)); (case k2 => exact .inr (Int.le_refl _)); (case k3 => decide); (case k4 => decide); k_whole; intro h' tk' e' hx')))
    | (with_reducible (k_here; (with_reducible show wpAny _ _ (subscriptTail _ _ (Value.ref _) (Value.int _ _)) _ _ _); k_dflt (refine' item_at ?k1 ?k2 ?_; (case k1 => exact News.isList (by k_asm) (by k_mem)); (case k2 => with_reducible assumption); k_whole)))
    | walk1 | (dsimp only; walk1) | (leave1; (try dsimp only))))
  all_goals (first
    | exact post _ _ (by k_asm) (by k_asm)
    | exact post _ _ _ _ _ _ (XIs.value _ _) (by k_asm) (by k_asm) (by k_asm)
    | exact post _ _ _ _ _ _ (XIs.value _ _) (by k_asm) (by k_asm) (by k_asm)
    | exact post _ _ _ _ _ _ (XIs.fault _ _ _ _ _ _) (by k_asm) (by k_asm) (by k_asm)
    | exact post _ _ _ _ _ _ XIs.index (by k_asm) (by k_asm) (by k_asm)
    | exact post _ _ _ _ _ _ (by assumption) (by k_asm) (by k_asm) (by k_asm))
end
end Mine
end
section
open PySem PySem.W PyProof.Rows PySem.Calls
set_option Elab.async false
set_option maxRecDepth 100000
set_option maxHeartbeats 8000000
namespace Mine
/-- `r[i]` comes out as one of `V`, or with one of `X` -/
def Reads4 (w : World) (nw : Led) (r : Value) (i : Int) (D : Nat) (V : Value → Prop) (X : XK → Prop) : Prop :=
  ∀ (value : PySem.Expr) (sn : Str) (sp : Pos) (ti : Tok) (dp un : Nat) (gd : Option (List Code)) (cn : Str) (cs : Scope) (a : Addr) (ccd : Value) (cl : List (Str × Addr)) (outer : List Env) (A₀ : Around) (base h₀ : Heap) (L : Addr) (m : Str → Option Value) (s : Shared) (Q E : Value → Shared → Prop)
    (p : Program) (loose : List Str) (mean : ExcName → Option Value) (mg mb : Str → Option Value) (nw' : List (Addr × Obj)),
    Below A₀ base outer h₀ → Fr h₀ L s.heap m → (topH.heap_1 w.params).In h₀ → News h₀ L s.heap nw' → Top p loose mean mg mb h₀ → cs.kind = .function → dp + D ≤ 400 → un + 8 * D ≤ 400 → (∀ q ∈ nw, q ∈ nw') →
    (∀ k G e P ex h' tk', X k → XIs w k P ex → Fr h₀ L G m → RaisedP base G (envX cn cs L a ccd cl :: outer) e P (ex ++ nw') h' → G.UpToSlots h' → E (.ref e) { s with heap := h', toks := tk' }) →
    (∀ v h' tk', V v → Fr h₀ L h' m → News h₀ L h' nw' → Q v { s with heap := h', toks := tk' }) →
    wpAny (model PySem.Challenge.rw_kn0109_04.row.prog w) (ktrTop dp un gd cn cs L a ccd cl outer) (subscriptTail value (.Name sn sp) r (.int i ti)) Q E s
theorem reads_val {w : World} {nw : Led} {r : Value} {i : Int} {D : Nat} {v : Value} (h : Yields w nw r i D (.val v)) : Reads4 w nw r i D (fun x => x = v) (fun _ => False) := by
  intro value sn sp ti dp un gd cn cs a ccd cl outer A₀ base h₀ L m s Q E p loose mean mg mb nw' B F X N T hk hd hu hn hE hQ
  exact h value sn sp ti dp un gd cn cs a ccd cl outer A₀ base h₀ L m s Q E p loose mean mg mb nw' B F X N T hk hd hu hn fun h' tk' F' N' => hQ v h' tk' rfl F' N'
theorem reads_exc {w : World} {nw : Led} {r : Value} {i : Int} {D : Nat} {k : XK} (h : Yields w nw r i D (.exc k)) : Reads4 w nw r i D (fun _ => False) (fun x => x = k) := by
  intro value sn sp ti dp un gd cn cs a ccd cl outer A₀ base h₀ L m s Q E p loose mean mg mb nw' B F X N T hk hd hu hn hE hQ
  exact h value sn sp ti dp un gd cn cs a ccd cl outer A₀ base h₀ L m s Q E p loose mean mg mb nw' B F X N T hk hd hu hn fun G e P ex h' tk' x F' R' U' => hE k G e P ex h' tk' rfl x F' R' U'
inductive ResR (w : World) (nx : Led) (V : Value → Prop) (X : XK → Prop) : Value → Prop
  | val (v : Value) (l : Addr) (h : V v) (hl : (l, listOf #[v] 0) ∈ nx) : ResR w nx V X (.ref l)
  | fault (c s : Value) (d : Addr) (o : Obj) (h : X (.fault c s)) (hd : (d == sysModules) = false) (ho : Obj.IsDictOf (s4 w) o [("faultCode", c), ("faultString", s)]) (hm : (d, o) ∈ nx) : ResR w nx V X (.ref d)
  | index (t : Tok) (h : X .index) : ResR w nx V X (.str "end" t)
  | value (t : Addr) (tk : Tok) (h : X .value) (ht : (t, tupOf #[.str unexpected tk]) ∈ nx) : ResR w nx V X (.ref t)
def PreR (pos : Pos) (qual : Str) (P : Addr) (nw nt : Led) (nw' : Led) : Prop := ∃ ps rest, nw' = (P, tabObj ps) :: rest ∧ (∀ q ∈ rest, q.1 ≠ P) ∧ TabS pos qual nt ps ∧ (∀ q ∈ nt, q ∈ rest) ∧ (∀ q ∈ nw, q ∈ rest)
def OutR (w : World) (pos : Pos) (qual : Str) (P : Addr) (V : Value → Prop) (X : XK → Prop) (nt : Led) (nw' : Led) (v : Value) (nx : Led) : Prop :=
  ∃ ps', (P, tabObj ps') ∈ nx ∧ (∃ nt', TabS pos qual nt' ps' ∧ ∀ q ∈ nt', q ∈ nx ∧ (q ∈ nt ∨ ∀ q' ∈ nw', q'.1 < q.1)) ∧ (∀ q ∈ nw', q.1 ≠ P → q ∈ nx) ∧ ResR w nx V X v
structure PackR (g' : Heap) (L' : Addr) (h2 : Heap) (P : Addr) (ps' : Array Value) (rest : Led) (f : Addr) (fo : Obj) (c' : Addr) (oc : Obj) (cells : Led) (led : Led) : Prop where
  N : News g' L' h2 led
  f : (f, fo) ∈ led
  c : (c', oc) ∈ led
  cells : ∀ q ∈ cells, q ∈ led
  ps : (P, tabObj ps') ∈ led
  rest : ∀ q ∈ rest, q ∈ led
theorem packR {g' : Heap} {L' : Addr} {h2 : Heap} {P : Addr} {ps' : Array Value} {rest ex cells : Led} {f : Addr} {fo : Obj} {c' : Addr} {oc : Obj} (N : News g' L' h2 ((f, fo) :: (ex ++ (cells ++ (P, tabObj ps') :: rest)))) (m1 : (c', oc) ∈ ex ++ (cells ++ (P, tabObj ps') :: rest)) : ∃ led, PackR g' L' h2 P ps' rest f fo c' oc cells led :=
  ⟨_, N, .head _, .tail _ m1, fun q hq => .tail _ (List.mem_append_right _ (List.mem_append_left _ hq)), .tail _ (List.mem_append_right _ (List.mem_append_right _ (.head _))), fun q hq => .tail _ (List.mem_append_right _ (List.mem_append_right _ (.tail _ hq)))⟩
def VR (V : Value → Prop) : Led → Value → Led → Prop := fun l v nx => V v ∧ nx = l
def YR (X : XK → Prop) : Led → XK → Led → Prop := fun l k nx => X k ∧ nx = l
theorem outR_of {w : World} {pos : Pos} {qual : Str} {g' : Heap} {L' : Addr} {h2 : Heap} {P : Addr} {ps ps' : Array Value} {rest cells : Led} {f : Addr} {fo : Obj} {c' : Addr} {oc : Obj} {vs' : Array Value} {t' : Tok} {led : Led} {V : Value → Prop} {X : XK → Prop} {v : Value} {nx : Led}
    (K : PackR g' L' h2 P ps' rest f fo c' oc cells led) (e1 : ps' = #[rawInt pos.line, rawInt pos.col, .ref c']) (d1 : oc.data = .fields vs') (d2 : vs'[1]? = some (.str qual t')) {nt : Led} (src : (c', oc) ∈ nt ∨ ∀ q' ∈ (P, tabObj ps) :: rest, q'.1 < c')
    (R : Took w (VR V) (YR X) led v nx) : OutR w pos qual P V X nt ((P, tabObj ps) :: rest) v nx := by
  have fin : ∀ {nx}, (∀ q ∈ led, q ∈ nx) → ResR w nx V X v → OutR w pos qual P V X nt ((P, tabObj ps) :: rest) v nx := fun inG R => ⟨ps', inG _ K.ps, ⟨[(c', oc)], .full c' oc vs' t' e1 (.head _) d1 d2, fun q hq => by rw [List.mem_singleton.mp hq]; exact ⟨inG _ K.c, src⟩⟩, fun q hq h2 => by
    rcases List.mem_cons.mp hq with rfl | hq
    · exact absurd rfl h2
    · exact inG q (K.rest q hq), R⟩
  cases R with
  | val v0 l nx0 hV fr =>
    obtain ⟨hv, rfl⟩ := hV
    exact fin (fun q hq => .tail _ hq) (.val v0 l hv (.head _))
  | fault c s d o nx0 gb hY hd ho fr =>
    obtain ⟨hx, rfl⟩ := hY
    exact fin (fun q hq => .tail _ (List.mem_append_right _ hq)) (.fault c s d o hx hd ho (.head _))
  | index t nx0 gb hY =>
    obtain ⟨hx, rfl⟩ := hY
    exact fin (fun q hq => List.mem_append_right _ hq) (.index t hx)
  | value t tk nx0 gb hY ht =>
    obtain ⟨hx, rfl⟩ := hY
    exact fin (fun q hq => List.mem_append_right _ hq) (.value t tk hx (List.mem_append_left _ ht))
noncomputable abbrev pos3 : Pos := ⟨109, 22, 109, 35⟩
noncomputable abbrev qual3 : Str := "_law_read" ++ ".<locals>." ++ "<lambda>"
theorem read {w : World} {itA : Addr} {i : Int} {ti : Tok} {V : Value → Prop} {Y : XK → Prop} {D : Nat} {nw nt : Led} (hD : D ≤ 12) (hC : Reads4 w nw (.ref itA) i D V Y) (hYh : ∀ c s, Y (.fault c s) → handedIn c = true ∧ handedIn s = true) : Taken w 42 (PreR pos3 qual3 195 nw nt) (OutR w pos3 qual3 195 V Y nt) (.ref 200) [.ref itA, .int i ti] := by
  unfold Taken
  w_top off
  k_fill
  intro dp un gd cn cs a ccd cl outer A₀ base h₀ L m s Q E p loose mean mg mb nw' B F X N T XB TB DD hk hd hu hP post
  obtain ⟨ps, rest, rfl, r2, hT, hnt, hsub⟩ := hP
  have hcode := codeHd_of_K (c := 199) (P := 195) X (by kernel_rfl)
  refine wpAny_call ?_
  refine' code_cellSX ?k1 ?k2 ?k3 ?k4 ?k5 ?kXB ?kTB ?kD ?kA ?kF ?k6 ?k7 ?k8 ?k9 ?kB ?kC ?_ ?cK ?c2 ?c3 ?c4
  (case kA => exact rfl)
  (case kF => exact rfl)
  (case k2 => exact F)
  (case k1 => exact B)
  (case k3 => exact X)
  (case k4 => exact N)
  (case k5 => exact T)
  (case kXB => exact XB)
  (case kTB => exact TB)
  (case kD => exact DD)
  (case k6 => k_is)
  (case k7 => k_is)
  (case k8 => k_room)
  (case k9 => exact BindsTo.of_eq rfl)
  (case kB => exact kindsX rfl)
  (case kC => decide +kernel)
  (case cK => exact hk)
  (case c2 => exact rfl)
  (case c3 => exact rfl)
  (case c4 => exact rfl)
  intro g' L' h' tk' cells' FG' F' N' Y' B' X' T' D' l1
  (try k_lt l1)
  k_cells Y'
  (try simp only [List.cons_append, List.nil_append] at N')
  (try dsimp only)
  (try k_fold)
  obtain ⟨l1b, l1c⟩ := l1
  have hcode' : CodeHd g' 199 195 := codeHd_of_K (c := 199) (P := 195) X' (by kernel_rfl)
  (repeat' (first
    | (k_unfold; (try dsimp only)) | (k_end; wrow_close)
    | (with_reducible (k_here; (with_reducible show wpAny _ _ (subscriptTail _ _ (Value.ref _) (Value.int _ _)) _ _ _); (with_reducible rename Reads4 _ _ _ _ _ _ _ => hY); k_dflt (refine' hY _ _ _ _ _ _ _ _ _ _ _ _ _ _ _ _ _ _ _ _ _ _ _ _ _ _ _ ?B ?F ?X ?N ?T ?hk ?hd ?hu ?hn ?_ ?_; (case B => k_asm); (case F => k_asm); (case X => k_asm); (case N => k_asm); (case T => k_asm); (case hk => exact rfl); (case hd => ((try dsimp only [ktrTop, Around.in1]); omega)); (case hu => ((try dsimp only [ktrTop, Around.in1]); omega)); (case hn => assumption)); (try clear hY)))
    | ((with_reducible show wpAny _ _ (leaving _ (Value.ref _)) _ _ _); with_reducible (k_here; k_dflt (first | (refine' leave_madeP ?k1 (Heap.MadeExc.of (by assumption)) ?k2 ?k3 ?_ ?k6 ?k5; (case k6 => exact rfl); (case k2 => assumption); (case k1 => assumption); (case k3 => k_asm); (case k5 => exact rfl); k_whole; intro h' t' R' U'; (try dsimp only at U' ⊢)) | (refine' leave_indexP ?k1 ?k0 ?k2 ?k3 ?_ ?k6 ?k5; (case k6 => exact rfl); (case k0 => assumption); (case k2 => assumption); (case k1 => assumption); (case k3 => k_asm); (case k5 => exact rfl); k_whole; intro h' R' U'; (try dsimp only at U' ⊢)) | (refine' leave_faultP ?k1 ?k0 ?k2 ?k3 ?_ ?k6 ?k5; (case k6 => exact rfl); (case k0 => assumption); (case k2 => assumption); (case k1 => assumption); (case k3 => k_asm); (case k5 => exact rfl); k_whole; intro h' t' dx' t1' t2' R' U'; (try dsimp only at U' ⊢)) | (refine' leaveOnP rfl ?k0 ?k1 ?k2 ?k3 ?k4 ?_; (case k3 => assumption); (case k0 => exact XIs.still (by assumption)); (case k1 => assumption); (case k2 => assumption); (case k4 => assumption); k_whole; intro h' R' U'; (try dsimp only at U' ⊢)))))
    | (with_reducible (k_here; (with_reducible show wpAny _ _ (call (Value.ref 179) _ _) _ _ _); refine unhide ?_))
    | walk1 | (dsimp only; walk1) | (leave1; (try dsimp only))))
  refine' kla_eval ?zd0 ?_
  (case zd0 => exact rfl)
  refine' lam_any ?zF ?zN ?zT ?zC ?zcd ?zU ?zS ?znt ?zcl ?_
  (case zF => k_asm)
  (case zN => exact N')
  (case zT => exact T')
  (case zcd => exact rfl)
  (case zC => exact hcode')
  (case zU => exact .tail (show ¬ (@Eq Nat (L' + 1 + 1) 195) by omega) (.tail (show ¬ (@Eq Nat (L' + 1) 195) by omega) (.head r2)))
  (case zS => exact hT)
  (case znt => exact fun q hq => (sub_tail (sub_tail (sub_tail hnt))) q hq)
  (case zcl => exact rfl)
  intro f c' oc vs' t' ctv ps' ex h2 tk2 F2 N2 e1 m1 d1 d2 lf lex src0
  (try dsimp only at N2); (try dsimp only at m1)
  (repeat' (first
    | (k_unfold; (try dsimp only)) | (k_end; wrow_close)
    | (with_reducible (k_here; (with_reducible show wpAny _ _ (subscriptTail _ _ (Value.ref _) (Value.int _ _)) _ _ _); (with_reducible rename Reads4 _ _ _ _ _ _ _ => hY); k_dflt (refine' hY _ _ _ _ _ _ _ _ _ _ _ _ _ _ _ _ _ _ _ _ _ _ _ _ _ _ _ ?B ?F ?X ?N ?T ?hk ?hd ?hu ?hn ?_ ?_; (case B => k_asm); (case F => k_asm); (case X => k_asm); (case N => k_asm); (case T => k_asm); (case hk => exact rfl); (case hd => ((try dsimp only [ktrTop, Around.in1]); omega)); (case hu => ((try dsimp only [ktrTop, Around.in1]); omega)); (case hn => assumption)); (try clear hY)))
    | ((with_reducible show wpAny _ _ (leaving _ (Value.ref _)) _ _ _); with_reducible (k_here; k_dflt (first | (refine' leave_madeP ?k1 (Heap.MadeExc.of (by assumption)) ?k2 ?k3 ?_ ?k6 ?k5; (case k6 => exact rfl); (case k2 => assumption); (case k1 => assumption); (case k3 => k_asm); (case k5 => exact rfl); k_whole; intro h' t' R' U'; (try dsimp only at U' ⊢)) | (refine' leave_indexP ?k1 ?k0 ?k2 ?k3 ?_ ?k6 ?k5; (case k6 => exact rfl); (case k0 => assumption); (case k2 => assumption); (case k1 => assumption); (case k3 => k_asm); (case k5 => exact rfl); k_whole; intro h' R' U'; (try dsimp only at U' ⊢)) | (refine' leave_faultP ?k1 ?k0 ?k2 ?k3 ?_ ?k6 ?k5; (case k6 => exact rfl); (case k0 => assumption); (case k2 => assumption); (case k1 => assumption); (case k3 => k_asm); (case k5 => exact rfl); k_whole; intro h' t' dx' t1' t2' R' U'; (try dsimp only at U' ⊢)) | (refine' leaveOnP rfl ?k0 ?k1 ?k2 ?k3 ?k4 ?_; (case k3 => assumption); (case k0 => exact XIs.still (by assumption)); (case k1 => assumption); (case k2 => assumption); (case k4 => assumption); k_whole; intro h' R' U'; (try dsimp only at U' ⊢)))))
    | (with_reducible (k_here; (with_reducible show wpAny _ _ (call (Value.ref 179) _ _) _ _ _); refine unhide ?_))
    | walk1 | (dsimp only; walk1) | (leave1; (try dsimp only))))
  unfold Hide
  obtain ⟨led, K2⟩ := packR (cells := [_, _]) N2 m1
  have src : (c', oc) ∈ nt ∨ ∀ q' ∈ (195, tabObj ps) :: rest, q'.1 < c' := src0.imp_right fun h q' hq' => h q' (.tail _ (.tail _ hq'))
  have N3 := K2.N
  have hf3 := K2.f
  have hc3 := K2.c
  have hx3 := K2.cells _ (.head _)
  have hm3 := K2.cells _ (.tail _ (.head _))
  have hnw3 : ∀ q ∈ nw, q ∈ led := fun q hq => K2.rest q (hsub q hq)
  clear N2 m1 lf lex
  have hC2 : Comes w 25 (fun l => l = led) (VR V) (YR Y) (.ref f) [] := by
    unfold Comes
    k_fill
    intro dp2 un2 gd2 cn2 cs2 a2 ccd2 cl2 outer2 A2 base2 h02 L2 m2 s2 Q2 E2 p2 loose2 mean2 mg2 mb2 nw2 B2 F2 X2 N2 T2 hk2 hd2 hu2 hP2 postE2 post2
    subst hP2
    refine wpAny_call ?_
    refine' kla_code ?k1 ?k2 ?k3 ?k4 ?k5 ?kA ?kF ?kK ?k6 ?k7 ?k8 ?k9 ?kB ?_ ?c2 ?c3 ?c4 ?c5
    (case kA => exact rfl)
    (case kF => exact rfl)
    (case kK => exact hk2)
    (case k1 => exact B2)
    (case k2 => exact F2)
    (case k3 => exact X2)
    (case k4 => exact N2)
    (case k5 => exact T2)
    (case k6 => exact hf3)
    (case k7 => exact codeRec_news N2 hc3 d1 d2)
    (case k8 => k_room)
    (case k9 => exact rfl)
    (case c5 => decide)
    (case kB => exact locs rfl)
    (case c2 => exact rfl)
    (case c3 => exact rfl)
    (case c4 => exact rfl)
    intro g4 L4 h4 FG4 F4 N4 B4 X4 T4
    (try dsimp only)
    (repeat' (first
      | (k_unfold; (try dsimp only)) | (k_end; wrow_close)
      | (with_reducible (k_here; (with_reducible show wpAny _ _ (subscriptTail _ _ (Value.ref _) (Value.int _ _)) _ _ _); (with_reducible rename Reads4 _ _ _ _ _ _ _ => hY); k_dflt (refine' hY _ _ _ _ _ _ _ _ _ _ _ _ _ _ _ _ _ _ _ _ _ _ _ _ _ _ _ ?B ?F ?X ?N ?T ?hk ?hd ?hu ?hn ?_ ?_; (case B => k_asm); (case F => k_asm); (case X => k_asm); (case N => k_asm); (case T => k_asm); (case hk => exact rfl); (case hd => ((try dsimp only [ktrTop, Around.in1]); omega)); (case hu => ((try dsimp only [ktrTop, Around.in1]); omega)); (case hn => assumption)); (try clear hY)))
      | ((with_reducible show wpAny _ _ (leaving _ (Value.ref _)) _ _ _); with_reducible (k_here; k_dflt (first | (refine' leave_madeP ?k1 (Heap.MadeExc.of (by assumption)) ?k2 ?k3 ?_ ?k6 ?k5; (case k6 => exact rfl); (case k2 => assumption); (case k1 => assumption); (case k3 => k_asm); (case k5 => exact rfl); k_whole; intro h' t' R' U'; (try dsimp only at U' ⊢)) | (refine' leave_indexP ?k1 ?k0 ?k2 ?k3 ?_ ?k6 ?k5; (case k6 => exact rfl); (case k0 => assumption); (case k2 => assumption); (case k1 => assumption); (case k3 => k_asm); (case k5 => exact rfl); k_whole; intro h' R' U'; (try dsimp only at U' ⊢)) | (refine' leave_faultP ?k1 ?k0 ?k2 ?k3 ?_ ?k6 ?k5; (case k6 => exact rfl); (case k0 => assumption); (case k2 => assumption); (case k1 => assumption); (case k3 => k_asm); (case k5 => exact rfl); k_whole; intro h' t' dx' t1' t2' R' U'; (try dsimp only at U' ⊢)) | (refine' leaveOnP rfl ?k0 ?k1 ?k2 ?k3 ?k4 ?_; (case k3 => assumption); (case k0 => exact XIs.still (by assumption)); (case k1 => assumption); (case k2 => assumption); (case k4 => assumption); k_whole; intro h' R' U'; (try dsimp only at U' ⊢)))))
      | (with_reducible (k_here; (with_reducible show wpAny _ _ (call (Value.ref 179) _ _) _ _ _); refine unhide ?_))
      | walk1 | (dsimp only; walk1) | (leave1; (try dsimp only))))
    all_goals first
      | exact postE2 _ _ _ _ _ _ _ _ ⟨(by assumption), rfl⟩ (by assumption) (by assumption) (by assumption) (by assumption)
      | exact post2 _ _ _ _ ⟨(by assumption), rfl⟩ (by assumption) (by assumption)
  refine (taken (by decide) (fun nw e => ⟨_, _, _, _, e ▸ hf3⟩) (fun _ c v _ h => hYh c v h.1) hC2) _ _ _ _ _ _ _ _ _ _ _ _ _ _ _ _ _ _ _ _ _ _ _ B' F2 X' N3 T' XB TB D' rfl ?hd ?hu rfl ?_
  case hd => ((try dsimp only [ktrTop, Around.in1, Around.deeper]); omega)
  case hu => ((try dsimp only [ktrTop, Around.in1, Around.deeper]); omega)
  intro h₁ h5 tk5 v5 nx5 R5 T5 B5 F5 X5 N5 P5 D5
  (try dsimp only)
  (repeat' (first
    | (k_unfold; (try dsimp only)) | (k_end; wrow_close)
    | (with_reducible (k_here; (with_reducible show wpAny _ _ (subscriptTail _ _ (Value.ref _) (Value.int _ _)) _ _ _); (with_reducible rename Reads4 _ _ _ _ _ _ _ => hY); k_dflt (refine' hY _ _ _ _ _ _ _ _ _ _ _ _ _ _ _ _ _ _ _ _ _ _ _ _ _ _ _ ?B ?F ?X ?N ?T ?hk ?hd ?hu ?hn ?_ ?_; (case B => k_asm); (case F => k_asm); (case X => k_asm); (case N => k_asm); (case T => k_asm); (case hk => exact rfl); (case hd => ((try dsimp only [ktrTop, Around.in1]); omega)); (case hu => ((try dsimp only [ktrTop, Around.in1]); omega)); (case hn => assumption)); (try clear hY)))
    | ((with_reducible show wpAny _ _ (leaving _ (Value.ref _)) _ _ _); with_reducible (k_here; k_dflt (first | (refine' leave_madeP ?k1 (Heap.MadeExc.of (by assumption)) ?k2 ?k3 ?_ ?k6 ?k5; (case k6 => exact rfl); (case k2 => assumption); (case k1 => assumption); (case k3 => k_asm); (case k5 => exact rfl); k_whole; intro h' t' R' U'; (try dsimp only at U' ⊢)) | (refine' leave_indexP ?k1 ?k0 ?k2 ?k3 ?_ ?k6 ?k5; (case k6 => exact rfl); (case k0 => assumption); (case k2 => assumption); (case k1 => assumption); (case k3 => k_asm); (case k5 => exact rfl); k_whole; intro h' R' U'; (try dsimp only at U' ⊢)) | (refine' leave_faultP ?k1 ?k0 ?k2 ?k3 ?_ ?k6 ?k5; (case k6 => exact rfl); (case k0 => assumption); (case k2 => assumption); (case k1 => assumption); (case k3 => k_asm); (case k5 => exact rfl); k_whole; intro h' t' dx' t1' t2' R' U'; (try dsimp only at U' ⊢)) | (refine' leaveOnP rfl ?k0 ?k1 ?k2 ?k3 ?k4 ?_; (case k3 => assumption); (case k0 => exact XIs.still (by assumption)); (case k1 => assumption); (case k2 => assumption); (case k4 => assumption); k_whole; intro h' R' U'; (try dsimp only at U' ⊢)))))
    | (with_reducible (k_here; (with_reducible show wpAny _ _ (call (Value.ref 179) _ _) _ _ _); refine unhide ?_))
    | walk1 | (dsimp only; walk1) | (leave1; (try dsimp only))))
  all_goals exact post _ _ _ _ _ (outR_of K2 e1 d1 d2 src R5) (by assumption) (by assumption) (by assumption) (by assumption) (by assumption) (by assumption) (by assumption)
end Mine
end
section
open PySem PySem.W PyProof.Rows PySem.Calls PySem.SeqAt
set_option Elab.async false
set_option maxRecDepth 100000
set_option maxHeartbeats 8000000
namespace Mine
noncomputable abbrev multDict (w : World) (t1 t2 t3 : Tok) (f : Addr) (n : Str) : Obj := dictOf [⟨PyData.keyHash w.params "_MultiCallMethod__call_list", .str "_MultiCallMethod__call_list" t1, .ref f⟩, ⟨PyData.keyHash w.params "_MultiCallMethod__name", .str "_MultiCallMethod__name" t2, .str n t3⟩] 2
section
variable {w : World} {A : Around} {E : Value → Shared → Prop} {h₀ h : Heap} {L x d f : Addr} {news : Led} {t1 t2 t3 : Tok} {n : Str} {gg dd os} {tk : Nat} {expr : Bool} {Q : Value → Shared → Prop}
theorem mult_list (X : (topH.heap_1 w.params).In h) (N : News h₀ L h news) (h1 : (x, instObj 84 d) ∈ news) (h2 : (d, multDict w t1 t2 t3 f n) ∈ news) (q : Q (.ref f) ⟨h, gg, dd, tk + 1, os⟩) :
    wpAny (model PySem.Challenge.rw_kn0109_04.row.prog w) A (getAttr (.ref x) "_MultiCallMethod__call_list" expr) Q E ⟨h, gg, dd, tk, os⟩ :=
  get_value (s := ⟨h, gg, dd, tk, os⟩) (v := .ref f) X (inst_N N h1 h2) (by kernel_rfl) (by kernel_rfl) rfl q
theorem mult_name (X : (topH.heap_1 w.params).In h) (N : News h₀ L h news) (h1 : (x, instObj 84 d) ∈ news) (h2 : (d, multDict w t1 t2 t3 f n) ∈ news) (q : Q (.str n t3) ⟨h, gg, dd, tk + 1, os⟩) :
    wpAny (model PySem.Challenge.rw_kn0109_04.row.prog w) A (getAttr (.ref x) "_MultiCallMethod__name" expr) Q E ⟨h, gg, dd, tk, os⟩ :=
  get_value (s := ⟨h, gg, dd, tk, os⟩) (v := .str n t3) X (inst_N N h1 h2) (by kernel_rfl) (by kernel_rfl) rfl q
end
theorem missm_put {w : World} {t1 t2 t3 : Tok} {f : Addr} {n : Str} : findObj (topH.heap_1 w.params) 84 (some (multDict w t1 t2 t3 f n)) "put" = some .missing := by kernel_rfl
theorem missm_top {w : World} {t1 t2 t3 : Tok} {f : Addr} {n : Str} : findObj (topH.heap_1 w.params) 84 (some (multDict w t1 t2 t3 f n)) "top" = some .missing := by kernel_rfl
theorem missm_take {w : World} {t1 t2 t3 : Tok} {f : Addr} {n : Str} : findObj (topH.heap_1 w.params) 84 (some (multDict w t1 t2 t3 f n)) "take" = some .missing := by kernel_rfl
theorem missm_two {w : World} {t1 t2 t3 : Tok} {f : Addr} {n : Str} : findObj (topH.heap_1 w.params) 84 (some (multDict w t1 t2 t3 f n)) "two" = some .missing := by kernel_rfl
theorem missm_add {w : World} {t1 t2 t3 : Tok} {f : Addr} {n : Str} : findObj (topH.heap_1 w.params) 84 (some (multDict w t1 t2 t3 f n)) "add" = some .missing := by kernel_rfl
theorem missm_turn {w : World} {t1 t2 t3 : Tok} {f : Addr} {n : Str} : findObj (topH.heap_1 w.params) 84 (some (multDict w t1 t2 t3 f n)) "turn" = some .missing := by kernel_rfl
theorem missm_look {w : World} {t1 t2 t3 : Tok} {f : Addr} {n : Str} : findObj (topH.heap_1 w.params) 84 (some (multDict w t1 t2 t3 f n)) "look" = some .missing := by kernel_rfl
theorem missm_at {w : World} {t1 t2 t3 : Tok} {f : Addr} {n : Str} : findObj (topH.heap_1 w.params) 84 (some (multDict w t1 t2 t3 f n)) "at" = some .missing := by kernel_rfl
theorem missm_no {w : World} {t1 t2 t3 : Tok} {f : Addr} {n : Str} : findObj (topH.heap_1 w.params) 84 (some (multDict w t1 t2 t3 f n)) "_no" = some .missing := by kernel_rfl
theorem missm_such {w : World} {t1 t2 t3 : Tok} {f : Addr} {n : Str} : findObj (topH.heap_1 w.params) 84 (some (multDict w t1 t2 t3 f n)) "such" = some .missing := by kernel_rfl
local macro_rules | `(tactic| k_updF) => `(tactic| first | assumption | (refine' UpdF.tail ?uu ?ll; (case uu => (refine' ne_obj ?n0 ?n1 ?n2 ?n3; (case n0 => k_asm); (case n1 => (repeat (first | with_reducible assumption | with_reducible exact List.mem_cons_self .. | with_reducible refine List.mem_cons_of_mem _ ?_))); (case n2 => (repeat (first | with_reducible assumption | with_reducible exact List.mem_cons_self .. | with_reducible refine List.mem_cons_of_mem _ ?_))); (case n3 => (intro e; simp at e)))); (case ll => k_updF)))
theorem getattr_mult {w : World} {x d f : Addr} {t1 t2 t3 ta : Tok} {n a : Str} (dp un : Nat) (gd : Option (List Code)) (cn : Str) (cs : Scope) (ad : Addr) (ccd : Value) (cl : List (Str × Addr)) (outer : List Env) (A₀ : Around) (base h₀ : Heap) (L : Addr) (m : Str → Option Value) (s : Shared) (Q E : Value → Shared → Prop)
    (p : Program) (loose : List Str) (mean : ExcName → Option Value) (mg mb : Str → Option Value) (nw' : Led) (B : Below A₀ base outer h₀) (F : Fr h₀ L s.heap m) (N : News h₀ L s.heap nw') (T : Top p loose mean mg mb h₀) (hk : cs.kind = .function) (hd : dp + 4 ≤ 390) (hu : un + 32 ≤ 400) (hn : n.length ≤ 100) (ha : a.length ≤ 100)
    (h1 : (x, instObj 84 d) ∈ nw') (h2 : (d, multDict w t1 t2 t3 f n) ∈ nw')
    (post : ∀ h' tk' x' d' u1 u2 u3, Fr h₀ L h' m → News h₀ L h' ((x', instObj 84 d') :: (d', multDict w u1 u2 u3 f (Str.empty ++ n ++ "." ++ a)) :: nw') → (∀ q ∈ nw', q.1 < d') → d' < x' → Q (.ref x') { s with heap := h', toks := tk' }) :
    (topH.heap_1 w.params).In h₀ → wpAny (model PySem.Challenge.rw_kn0109_04.row.prog w) (ktrTop dp un gd cn cs L ad ccd cl outer) (call (.ref 74) [.ref x, .str a ta]) Q E s := by
  w_top off
  k_fill
  intro X
  refine wpAny_call ?_
  k_dflt cell_enter
  (repeat' (first
    | (k_unfold; (try dsimp only)) | (k_end; wrow_close)
    | (with_reducible ((with_reducible show FnAt _ _ ∧ _); refine' And.intro ?k1 ?_; (case k1 => refine' FnAt.of ?n0 ?n1; (case n0 => k_asm); (case n1 => (repeat (first | with_reducible assumption | with_reducible exact List.mem_cons_self .. | with_reducible refine List.mem_cons_of_mem _ ?_)))); (try dsimp only [List.nil_append, List.cons_append])))
    | ((with_reducible show wpAny _ _ (callWith _ (Value.ref _) _ _ _) _ _ _); with_reducible (k_here; (try dsimp only); k_dflt (refine' callWith_F ?k1 ?_; (case k1 => refine' FnAt.of ?n0 ?n1; (case n0 => k_asm); (case n1 => (repeat (first | with_reducible assumption | with_reducible exact List.mem_cons_self .. | with_reducible refine List.mem_cons_of_mem _ ?_)))); k_whole)))
    | (with_reducible (k_here; (with_reducible show wpAny _ _ (call (Value.ref _) _ _) _ _ _); k_dflt (refine wpAny_call ?_; refine' kco_code ?k1 ?k2 ?k3 ?k4 ?k5 ?k6 ?_; (case k1 => k_in); (case k2 => (refine' inst_N ?n0 ?n1 ?n2; (case n0 => k_asm); (case n1 => (repeat (first | with_reducible assumption | with_reducible exact List.mem_cons_self .. | with_reducible refine List.mem_cons_of_mem _ ?_))); (case n2 => (repeat (first | with_reducible assumption | with_reducible exact List.mem_cons_self .. | with_reducible refine List.mem_cons_of_mem _ ?_))))); (case k3 => rfl); (case k4 => k_is); (case k5 => k_is); (case k6 => k_is); (try dsimp only); k_enter)))
    | ((with_reducible show wpAny _ _ (leaving _ (Value.ref _)) _ _ _); with_reducible (k_here; k_dflt (first | (refine' leave_madeP ?k1 (Heap.MadeExc.of (by assumption)) ?k2 ?k3 ?_ ?k6 ?k5; (case k6 => exact rfl); (case k2 => assumption); (case k1 => assumption); (case k3 => k_asm); (case k5 => exact rfl); k_whole; intro h' t' R' U'; (try dsimp only at U' ⊢)) | (refine' leave_indexP ?k1 ?k0 ?k2 ?k3 ?_ ?k6 ?k5; (case k6 => exact rfl); (case k0 => assumption); (case k2 => assumption); (case k1 => assumption); (case k3 => k_asm); (case k5 => exact rfl); k_whole; intro h' R' U'; (try dsimp only at U' ⊢)) | (refine' leave_faultP ?k1 ?k0 ?k2 ?k3 ?_ ?k6 ?k5; (case k6 => exact rfl); (case k0 => assumption); (case k2 => assumption); (case k1 => assumption); (case k3 => k_asm); (case k5 => exact rfl); k_whole; intro h' t' dx' t1' t2' R' U'; (try dsimp only at U' ⊢)) | (refine' leaveOnP rfl ?k0 ?k1 ?k2 ?k3 ?k4 ?_; (case k3 => assumption); (case k0 => exact XIs.still (by assumption)); (case k1 => assumption); (case k2 => assumption); (case k4 => assumption); k_whole; intro h' R' U'; (try dsimp only at U' ⊢)))))
    | ((with_reducible show wpAny _ _ (getAttr (Value.ref _) _ _) _ _ _); with_reducible (k_here; k_dflt (first | (with_reducible refine' mult_list ?X ?N ?h1 ?h2 ?_; (case X => k_in); (case N => k_asm); (case h1 => (repeat (first | with_reducible assumption | with_reducible exact List.mem_cons_self .. | with_reducible refine List.mem_cons_of_mem _ ?_))); (case h2 => (repeat (first | with_reducible assumption | with_reducible exact List.mem_cons_self .. | with_reducible refine List.mem_cons_of_mem _ ?_)))) | (with_reducible refine' mult_name ?X ?N ?h1 ?h2 ?_; (case X => k_in); (case N => k_asm); (case h1 => (repeat (first | with_reducible assumption | with_reducible exact List.mem_cons_self .. | with_reducible refine List.mem_cons_of_mem _ ?_))); (case h2 => (repeat (first | with_reducible assumption | with_reducible exact List.mem_cons_self .. | with_reducible refine List.mem_cons_of_mem _ ?_)))))))
    | walk1 | (dsimp only; walk1) | (leave1; (try dsimp only))))
  all_goals exact post _ _ _ _ _ _ _ (by k_asm) (by assumption) (by assumption) (by assumption)
theorem hookA2 {w : World} {x d f : Addr} {t1 t2 t3 : Tok} {n a : Str} {dp un : Nat} {gd : Option (List Code)} {cn : Str} {cs : Scope} {ad : Addr} {ccd : Value} {cl : List (Str × Addr)} {outer : List Env} {A₀ : Around} {base h₀ : Heap} {L : Addr} {m : Str → Option Value} {h : Heap} {gg dd os} {tk : Nat} {Q E : Value → Shared → Prop}
    {p : Program} {loose : List Str} {mean : ExcName → Option Value} {mg mb : Str → Option Value} {nw' : Led} {expr : Bool} (B : Below A₀ base outer h₀) (F : Fr h₀ L h m) (X : (topH.heap_1 w.params).In h₀) (N : News h₀ L h nw') (T : Top p loose mean mg mb h₀) (hk : cs.kind = .function) (hd : dp + 4 ≤ 390) (hu : un + 40 ≤ 400) (hn : n.length ≤ 100) (ha : a.length ≤ 100)
    (h1 : (x, instObj 84 d) ∈ nw') (h2 : (d, multDict w t1 t2 t3 f n) ∈ nw') (miss : ∀ u1 u2 u3 g k, findObj (topH.heap_1 w.params) 84 (some (multDict w u1 u2 u3 g k)) a = some .missing)
    (post : ∀ h' tk' x' d' u1 u2 u3, Fr h₀ L h' m → News h₀ L h' ((x', instObj 84 d') :: (d', multDict w u1 u2 u3 f (Str.empty ++ n ++ "." ++ a)) :: nw') → (∀ q ∈ nw', q.1 < d') → d' < x' → Q (.ref x') ⟨h', gg, dd, tk', os⟩) :
    wpAny (model PySem.Challenge.rw_kn0109_04.row.prog w) (ktrTop dp un gd cn cs L ad ccd cl outer) (getAttr (.ref x) a expr) Q E ⟨h, gg, dd, tk, os⟩ :=
  get_hook (s := ⟨h, gg, dd, tk, os⟩) (X.keeps F.keep) (inst_N N h1 h2) (by kernel_rfl) (miss ..) (f := 74) (by kernel_rfl) (by kernel_rfl)
    (getattr_mult dp (un + 1) gd cn cs ad ccd cl outer A₀ base h₀ L m ⟨h, gg, dd, tk + 1, os⟩ _ _ p loose mean mg mb nw' B F N T hk hd (by omega) hn ha h1 h2 (fun h' tk' x' d' u1 u2 u3 a b c e => ⟨rfl, post h' tk' x' d' u1 u2 u3 a b c e⟩) X)
theorem hookM2 {w : World} {x d f : Addr} {t1 t2 t3 : Tok} {n a : Str} {dp un : Nat} {gd : Option (List Code)} {cn : Str} {cs : Scope} {ad : Addr} {ccd : Value} {cl : List (Str × Addr)} {outer : List Env} {A₀ : Around} {base h₀ : Heap} {L : Addr} {m : Str → Option Value} {h : Heap} {gg dd os} {tk : Nat} {Q : Value × List Value → Shared → Prop} {E : Value → Shared → Prop}
    {p : Program} {loose : List Str} {mean : ExcName → Option Value} {mg mb : Str → Option Value} {nw' : Led} {pl : Sem Bool} (B : Below A₀ base outer h₀) (F : Fr h₀ L h m) (X : (topH.heap_1 w.params).In h₀) (N : News h₀ L h nw') (T : Top p loose mean mg mb h₀) (hk : cs.kind = .function) (hd : dp + 4 ≤ 390) (hu : un + 40 ≤ 400) (hn : n.length ≤ 100) (ha : a.length ≤ 100)
    (h1 : (x, instObj 84 d) ∈ nw') (h2 : (d, multDict w t1 t2 t3 f n) ∈ nw') (miss : ∀ u1 u2 u3 g k, findObj (topH.heap_1 w.params) 84 (some (multDict w u1 u2 u3 g k)) a = some .missing)
    (post : ∀ h' tk' x' d' u1 u2 u3, Fr h₀ L h' m → News h₀ L h' ((x', instObj 84 d') :: (d', multDict w u1 u2 u3 f (Str.empty ++ n ++ "." ++ a)) :: nw') → (∀ q ∈ nw', q.1 < d') → d' < x' → Q (.ref x', []) ⟨h', gg, dd, tk', os⟩) :
    wpAny (model PySem.Challenge.rw_kn0109_04.row.prog w) (ktrTop dp un gd cn cs L ad ccd cl outer) (getMethod (.ref x) a pl) Q E ⟨h, gg, dd, tk, os⟩ :=
  meth_hook (s := ⟨h, gg, dd, tk, os⟩) (X.keeps F.keep) (inst_N N h1 h2) (by kernel_rfl) (miss ..) (f := 74) (by kernel_rfl) (by kernel_rfl)
    (getattr_mult dp (un + 1) gd cn cs ad ccd cl outer A₀ base h₀ L m ⟨h, gg, dd, tk + 1, os⟩ _ _ p loose mean mg mb nw' B F N T hk hd (by omega) hn ha h1 h2 (fun h' tk' x' d' u1 u2 u3 a b c e => ⟨rfl, post h' tk' x' d' u1 u2 u3 a b c e⟩) X)
/-- a call that is only noted down: `calls` grows by a pair of the name and the things -/
def Notes (w : World) (lC : Addr) (name : Str) (P : Array Value → Prop) (D : Nat) (nw : Led) (f : Value) (args : List Value) : Prop :=
  ∀ (dp un : Nat) (gd : Option (List Code)) (cn : Str) (cs : Scope) (a : Addr) (ccd : Value) (cl : List (Str × Addr)) (outer : List Env) (A₀ : Around) (base h₀ : Heap) (L : Addr) (m : Str → Option Value) (s : Shared) (Q E : Value → Shared → Prop)
    (p : Program) (loose : List Str) (mean : ExcName → Option Value) (mg mb : Str → Option Value) (nw' : Led) (g : Obj → Led) (vs : List Value) (n : Nat),
    Below A₀ base outer h₀ → Fr h₀ L s.heap m → (topH.heap_1 w.params).In h₀ → News h₀ L s.heap nw' → Top p loose mean mg mb h₀ → cs.kind = .function → dp + D ≤ 390 → un + 8 * D ≤ 400 → (∀ q ∈ nw, q ∈ nw') → vs.length ≤ 1000 → UpdF lC (listOf vs.toArray n) nw' g →
    (∀ (h' : Heap) (tk' : Nat) (t1 t2 : Addr) (its : Array Value) (tn : Tok) (n' : Nat), P its → Fr h₀ L h' m → News h₀ L h' ((t2, tupOf #[.str name tn, .ref t1]) :: (t1, tupOf its) :: g (listOf (vs ++ [Value.ref t2]).toArray n')) → Q .none { s with heap := h', toks := tk' }) →
    wpAny (model PySem.Challenge.rw_kn0109_04.row.prog w) (ktrTop dp un gd cn cs L a ccd cl outer) (call f args) Q E s
theorem note_put {w : World} {lC mA dA : Addr} {t1 t2 t3 tx : Tok} {x : Int} {nw : Led} (hst : x.fmod 7 < 2) (h1 : (mA, instObj 84 dA) ∈ nw) (h2 : (dA, multDict w t1 t2 t3 lC "s") ∈ nw) : Notes w lC "s.put" (fun its => ∃ ta, its = #[.int (x.fdiv 7) ta]) 10 nw (.ref 165) [.ref mA, .int x tx] := by
  rw [show ("s.put" : Str) = (Str.empty ++ "s" ++ "." ++ "put") from by decide +kernel]
  unfold Notes
  w_top off
  k_fill
  intro dp un gd cn cs a ccd cl outer A₀ base h₀ L m s Q E p loose mean mg mb nw' g vs n B F X N T hk hd hu hn hlen U post
  have g1 := hn _ h1
  have g2 := hn _ h2
  have hL := updMem U
  refine wpAny_call ?_
  k_dflt cell_enter
  (repeat' (first
    | (k_unfold; (try dsimp only)) | (k_end; wrow_close)
    | (with_reducible (k_here; (with_reducible show wpAny _ _ (call (Value.builtin _) [Value.ref _, _]) _ _ _); k_dflt (refine' app_U ?F ?N ?U ?z ?_; (case F => k_asm); (case N => k_asm); (case U => k_updF); (case z => omega)); intro h' F' N' U' m'; (try dsimp only at N')))
    | (with_reducible (k_here; (with_reducible show wpAny _ _ (getMethod (Value.ref _) (PySem.Str.ofString "append") _) _ _ _); k_dflt (refine' kl_method ?N ?m PySem.F.slot_list_append PySem.F.type_list_append ?_; (case N => k_asm); (case m => (repeat (first | with_reducible assumption | with_reducible exact List.mem_cons_self .. | with_reducible refine List.mem_cons_of_mem _ ?_))))))
    | (with_reducible (k_here; (with_reducible show wpAny _ _ (binaryOp Operator.Mod (Value.int _ _) (Value.int 7 _)) _ _ _); (with_reducible rename Int.fmod _ 7 = _ => h4); (with_reducible refine PyProof.Rows.mod_int (by decide) ?_); (simp only [h4])))
    | ((with_reducible show wpAny _ _ (getAttr (Value.ref _) _ _) _ _ _); with_reducible (k_here; k_dflt (first | (with_reducible refine' mult_list ?X ?N ?h1 ?h2 ?_; (case X => k_in); (case N => k_asm); (case h1 => (repeat (first | with_reducible assumption | with_reducible exact List.mem_cons_self .. | with_reducible refine List.mem_cons_of_mem _ ?_))); (case h2 => (repeat (first | with_reducible assumption | with_reducible exact List.mem_cons_self .. | with_reducible refine List.mem_cons_of_mem _ ?_)))) | (with_reducible refine' mult_name ?X ?N ?h1 ?h2 ?_; (case X => k_in); (case N => k_asm); (case h1 => (repeat (first | with_reducible assumption | with_reducible exact List.mem_cons_self .. | with_reducible refine List.mem_cons_of_mem _ ?_))); (case h2 => (repeat (first | with_reducible assumption | with_reducible exact List.mem_cons_self .. | with_reducible refine List.mem_cons_of_mem _ ?_)))))))
    | ((with_reducible show wpAny _ _ (getAttr (Value.ref _) _ _) _ _ _); with_reducible (k_here; k_dflt (refine' hookA2 ?B ?F ?X ?N ?T ?hk ?hd ?hu ?hn ?ha ?h1 ?h2 ?miss ?_; (case B => k_asm); (case F => k_asm); (case X => k_asm); (case N => k_asm); (case T => k_asm); (case hk => exact rfl); (case hd => ((try dsimp only [ktrTop, Around.in1, Around.deeper]); omega)); (case hu => ((try dsimp only [ktrTop, Around.in1, Around.deeper]); omega)); (case h1 => (repeat (first | with_reducible assumption | with_reducible exact List.mem_cons_self .. | with_reducible refine List.mem_cons_of_mem _ ?_))); (case h2 => (repeat (first | with_reducible assumption | with_reducible exact List.mem_cons_self .. | with_reducible refine List.mem_cons_of_mem _ ?_))); (case hn => decide +kernel); (case ha => decide +kernel); (case miss => with_reducible first | exact fun _ _ _ _ _ => missm_put | exact fun _ _ _ _ _ => missm_top | exact fun _ _ _ _ _ => missm_take | exact fun _ _ _ _ _ => missm_two | exact fun _ _ _ _ _ => missm_add | exact fun _ _ _ _ _ => missm_turn | exact fun _ _ _ _ _ => missm_look | exact fun _ _ _ _ _ => missm_at | exact fun _ _ _ _ _ => missm_no | exact fun _ _ _ _ _ => missm_such)); intro h' tk' x' d' u1' u2' u3' F' N' l1 l2))
    | ((with_reducible show wpAny _ _ (getMethod (Value.ref _) _ _) _ _ _); with_reducible (k_here; k_dflt (refine' hookM2 ?B ?F ?X ?N ?T ?hk ?hd ?hu ?hn ?ha ?h1 ?h2 ?miss ?_; (case B => k_asm); (case F => k_asm); (case X => k_asm); (case N => k_asm); (case T => k_asm); (case hk => exact rfl); (case hd => ((try dsimp only [ktrTop, Around.in1, Around.deeper]); omega)); (case hu => ((try dsimp only [ktrTop, Around.in1, Around.deeper]); omega)); (case h1 => (repeat (first | with_reducible assumption | with_reducible exact List.mem_cons_self .. | with_reducible refine List.mem_cons_of_mem _ ?_))); (case h2 => (repeat (first | with_reducible assumption | with_reducible exact List.mem_cons_self .. | with_reducible refine List.mem_cons_of_mem _ ?_))); (case hn => decide +kernel); (case ha => decide +kernel); (case miss => with_reducible first | exact fun _ _ _ _ _ => missm_put | exact fun _ _ _ _ _ => missm_top | exact fun _ _ _ _ _ => missm_take | exact fun _ _ _ _ _ => missm_two | exact fun _ _ _ _ _ => missm_add | exact fun _ _ _ _ _ => missm_turn | exact fun _ _ _ _ _ => missm_look | exact fun _ _ _ _ _ => missm_at | exact fun _ _ _ _ _ => missm_no | exact fun _ _ _ _ _ => missm_such)); intro h' tk' x' d' u1' u2' u3' F' N' l1 l2))
    | (with_reducible ((with_reducible show FnAt _ _ ∧ _); refine' And.intro ?k1 ?_; (case k1 => refine' FnAt.of ?n0 ?n1; (case n0 => k_asm); (case n1 => (repeat (first | with_reducible assumption | with_reducible exact List.mem_cons_self .. | with_reducible refine List.mem_cons_of_mem _ ?_)))); (try dsimp only [List.nil_append, List.cons_append])))
    | ((with_reducible show wpAny _ _ (callWith _ (Value.ref _) _ _ _) _ _ _); with_reducible (k_here; (try dsimp only); k_dflt (refine' callWith_F ?k1 ?_; (case k1 => refine' FnAt.of ?n0 ?n1; (case n0 => k_asm); (case n1 => (repeat (first | with_reducible assumption | with_reducible exact List.mem_cons_self .. | with_reducible refine List.mem_cons_of_mem _ ?_)))); k_whole)))
    | (with_reducible (k_here; (with_reducible show wpAny _ _ (call (Value.ref _) _ _) _ _ _); k_dflt (refine wpAny_call ?_; refine' kco_code ?k1 ?k2 ?k3 ?k4 ?k5 ?k6 ?_; (case k1 => k_in); (case k2 => (refine' inst_N ?n0 ?n1 ?n2; (case n0 => k_asm); (case n1 => (repeat (first | with_reducible assumption | with_reducible exact List.mem_cons_self .. | with_reducible refine List.mem_cons_of_mem _ ?_))); (case n2 => (repeat (first | with_reducible assumption | with_reducible exact List.mem_cons_self .. | with_reducible refine List.mem_cons_of_mem _ ?_))))); (case k3 => rfl); (case k4 => k_is); (case k5 => k_is); (case k6 => k_is); (try dsimp only); k_enter)))
    | ((with_reducible show wpAny _ _ (leaving _ (Value.ref _)) _ _ _); with_reducible (k_here; k_dflt (first | (refine' leave_madeP ?k1 (Heap.MadeExc.of (by assumption)) ?k2 ?k3 ?_ ?k6 ?k5; (case k6 => exact rfl); (case k2 => assumption); (case k1 => assumption); (case k3 => k_asm); (case k5 => exact rfl); k_whole; intro h' t' R' U'; (try dsimp only at U' ⊢)) | (refine' leave_indexP ?k1 ?k0 ?k2 ?k3 ?_ ?k6 ?k5; (case k6 => exact rfl); (case k0 => assumption); (case k2 => assumption); (case k1 => assumption); (case k3 => k_asm); (case k5 => exact rfl); k_whole; intro h' R' U'; (try dsimp only at U' ⊢)) | (refine' leave_faultP ?k1 ?k0 ?k2 ?k3 ?_ ?k6 ?k5; (case k6 => exact rfl); (case k0 => assumption); (case k2 => assumption); (case k1 => assumption); (case k3 => k_asm); (case k5 => exact rfl); k_whole; intro h' t' dx' t1' t2' R' U'; (try dsimp only at U' ⊢)) | (refine' leaveOnP rfl ?k0 ?k1 ?k2 ?k3 ?k4 ?_; (case k3 => assumption); (case k0 => exact XIs.still (by assumption)); (case k1 => assumption); (case k2 => assumption); (case k4 => assumption); k_whole; intro h' R' U'; (try dsimp only at U' ⊢)))))
    | walk1 | (dsimp only; walk1) | (leave1; (try dsimp only))))
  all_goals (
    refine' post _ _ _ _ _ _ (n + 1) ?hp ?hf ?hn
    case hf => assumption
    case hn => exact news_sub (by assumption) (sub_app (ex := [_, _]) (by repeat (first | exact fun _ h => h | refine sub_tail ?_)))
    case hp => first | exact rfl | exact ⟨_, rfl⟩ | exact ⟨_, _, rfl⟩)
theorem note_take {w : World} {lC mA dA : Addr} {t1 t2 t3 tx : Tok} {x : Int} {nw : Led} (hst : x.fmod 7 = 2) (h1 : (mA, instObj 84 dA) ∈ nw) (h2 : (dA, multDict w t1 t2 t3 lC "s") ∈ nw) : Notes w lC "s.top.take" (fun its => its = #[]) 10 nw (.ref 165) [.ref mA, .int x tx] := by
  rw [show ("s.top.take" : Str) = (Str.empty ++ (Str.empty ++ "s" ++ "." ++ "top") ++ "." ++ "take") from by decide +kernel]
  unfold Notes
  w_top off
  k_fill
  intro dp un gd cn cs a ccd cl outer A₀ base h₀ L m s Q E p loose mean mg mb nw' g vs n B F X N T hk hd hu hn hlen U post
  have g1 := hn _ h1
  have g2 := hn _ h2
  have hL := updMem U
  refine wpAny_call ?_
  k_dflt cell_enter
  (repeat' (first
    | (k_unfold; (try dsimp only)) | (k_end; wrow_close)
    | (with_reducible (k_here; (with_reducible show wpAny _ _ (call (Value.builtin _) [Value.ref _, _]) _ _ _); k_dflt (refine' app_U ?F ?N ?U ?z ?_; (case F => k_asm); (case N => k_asm); (case U => k_updF); (case z => omega)); intro h' F' N' U' m'; (try dsimp only at N')))
    | (with_reducible (k_here; (with_reducible show wpAny _ _ (getMethod (Value.ref _) (PySem.Str.ofString "append") _) _ _ _); k_dflt (refine' kl_method ?N ?m PySem.F.slot_list_append PySem.F.type_list_append ?_; (case N => k_asm); (case m => (repeat (first | with_reducible assumption | with_reducible exact List.mem_cons_self .. | with_reducible refine List.mem_cons_of_mem _ ?_))))))
    | (with_reducible (k_here; (with_reducible show wpAny _ _ (binaryOp Operator.Mod (Value.int _ _) (Value.int 7 _)) _ _ _); (with_reducible rename Int.fmod _ 7 = _ => h4); (with_reducible refine PyProof.Rows.mod_int (by decide) ?_); (simp only [h4])))
    | ((with_reducible show wpAny _ _ (getAttr (Value.ref _) _ _) _ _ _); with_reducible (k_here; k_dflt (first | (with_reducible refine' mult_list ?X ?N ?h1 ?h2 ?_; (case X => k_in); (case N => k_asm); (case h1 => (repeat (first | with_reducible assumption | with_reducible exact List.mem_cons_self .. | with_reducible refine List.mem_cons_of_mem _ ?_))); (case h2 => (repeat (first | with_reducible assumption | with_reducible exact List.mem_cons_self .. | with_reducible refine List.mem_cons_of_mem _ ?_)))) | (with_reducible refine' mult_name ?X ?N ?h1 ?h2 ?_; (case X => k_in); (case N => k_asm); (case h1 => (repeat (first | with_reducible assumption | with_reducible exact List.mem_cons_self .. | with_reducible refine List.mem_cons_of_mem _ ?_))); (case h2 => (repeat (first | with_reducible assumption | with_reducible exact List.mem_cons_self .. | with_reducible refine List.mem_cons_of_mem _ ?_)))))))
    | ((with_reducible show wpAny _ _ (getAttr (Value.ref _) _ _) _ _ _); with_reducible (k_here; k_dflt (refine' hookA2 ?B ?F ?X ?N ?T ?hk ?hd ?hu ?hn ?ha ?h1 ?h2 ?miss ?_; (case B => k_asm); (case F => k_asm); (case X => k_asm); (case N => k_asm); (case T => k_asm); (case hk => exact rfl); (case hd => ((try dsimp only [ktrTop, Around.in1, Around.deeper]); omega)); (case hu => ((try dsimp only [ktrTop, Around.in1, Around.deeper]); omega)); (case h1 => (repeat (first | with_reducible assumption | with_reducible exact List.mem_cons_self .. | with_reducible refine List.mem_cons_of_mem _ ?_))); (case h2 => (repeat (first | with_reducible assumption | with_reducible exact List.mem_cons_self .. | with_reducible refine List.mem_cons_of_mem _ ?_))); (case hn => decide +kernel); (case ha => decide +kernel); (case miss => with_reducible first | exact fun _ _ _ _ _ => missm_put | exact fun _ _ _ _ _ => missm_top | exact fun _ _ _ _ _ => missm_take | exact fun _ _ _ _ _ => missm_two | exact fun _ _ _ _ _ => missm_add | exact fun _ _ _ _ _ => missm_turn | exact fun _ _ _ _ _ => missm_look | exact fun _ _ _ _ _ => missm_at | exact fun _ _ _ _ _ => missm_no | exact fun _ _ _ _ _ => missm_such)); intro h' tk' x' d' u1' u2' u3' F' N' l1 l2))
    | ((with_reducible show wpAny _ _ (getMethod (Value.ref _) _ _) _ _ _); with_reducible (k_here; k_dflt (refine' hookM2 ?B ?F ?X ?N ?T ?hk ?hd ?hu ?hn ?ha ?h1 ?h2 ?miss ?_; (case B => k_asm); (case F => k_asm); (case X => k_asm); (case N => k_asm); (case T => k_asm); (case hk => exact rfl); (case hd => ((try dsimp only [ktrTop, Around.in1, Around.deeper]); omega)); (case hu => ((try dsimp only [ktrTop, Around.in1, Around.deeper]); omega)); (case h1 => (repeat (first | with_reducible assumption | with_reducible exact List.mem_cons_self .. | with_reducible refine List.mem_cons_of_mem _ ?_))); (case h2 => (repeat (first | with_reducible assumption | with_reducible exact List.mem_cons_self .. | with_reducible refine List.mem_cons_of_mem _ ?_))); (case hn => decide +kernel); (case ha => decide +kernel); (case miss => with_reducible first | exact fun _ _ _ _ _ => missm_put | exact fun _ _ _ _ _ => missm_top | exact fun _ _ _ _ _ => missm_take | exact fun _ _ _ _ _ => missm_two | exact fun _ _ _ _ _ => missm_add | exact fun _ _ _ _ _ => missm_turn | exact fun _ _ _ _ _ => missm_look | exact fun _ _ _ _ _ => missm_at | exact fun _ _ _ _ _ => missm_no | exact fun _ _ _ _ _ => missm_such)); intro h' tk' x' d' u1' u2' u3' F' N' l1 l2))
    | (with_reducible ((with_reducible show FnAt _ _ ∧ _); refine' And.intro ?k1 ?_; (case k1 => refine' FnAt.of ?n0 ?n1; (case n0 => k_asm); (case n1 => (repeat (first | with_reducible assumption | with_reducible exact List.mem_cons_self .. | with_reducible refine List.mem_cons_of_mem _ ?_)))); (try dsimp only [List.nil_append, List.cons_append])))
    | ((with_reducible show wpAny _ _ (callWith _ (Value.ref _) _ _ _) _ _ _); with_reducible (k_here; (try dsimp only); k_dflt (refine' callWith_F ?k1 ?_; (case k1 => refine' FnAt.of ?n0 ?n1; (case n0 => k_asm); (case n1 => (repeat (first | with_reducible assumption | with_reducible exact List.mem_cons_self .. | with_reducible refine List.mem_cons_of_mem _ ?_)))); k_whole)))
    | (with_reducible (k_here; (with_reducible show wpAny _ _ (call (Value.ref _) _ _) _ _ _); k_dflt (refine wpAny_call ?_; refine' kco_code ?k1 ?k2 ?k3 ?k4 ?k5 ?k6 ?_; (case k1 => k_in); (case k2 => (refine' inst_N ?n0 ?n1 ?n2; (case n0 => k_asm); (case n1 => (repeat (first | with_reducible assumption | with_reducible exact List.mem_cons_self .. | with_reducible refine List.mem_cons_of_mem _ ?_))); (case n2 => (repeat (first | with_reducible assumption | with_reducible exact List.mem_cons_self .. | with_reducible refine List.mem_cons_of_mem _ ?_))))); (case k3 => rfl); (case k4 => k_is); (case k5 => k_is); (case k6 => k_is); (try dsimp only); k_enter)))
    | ((with_reducible show wpAny _ _ (leaving _ (Value.ref _)) _ _ _); with_reducible (k_here; k_dflt (first | (refine' leave_madeP ?k1 (Heap.MadeExc.of (by assumption)) ?k2 ?k3 ?_ ?k6 ?k5; (case k6 => exact rfl); (case k2 => assumption); (case k1 => assumption); (case k3 => k_asm); (case k5 => exact rfl); k_whole; intro h' t' R' U'; (try dsimp only at U' ⊢)) | (refine' leave_indexP ?k1 ?k0 ?k2 ?k3 ?_ ?k6 ?k5; (case k6 => exact rfl); (case k0 => assumption); (case k2 => assumption); (case k1 => assumption); (case k3 => k_asm); (case k5 => exact rfl); k_whole; intro h' R' U'; (try dsimp only at U' ⊢)) | (refine' leave_faultP ?k1 ?k0 ?k2 ?k3 ?_ ?k6 ?k5; (case k6 => exact rfl); (case k0 => assumption); (case k2 => assumption); (case k1 => assumption); (case k3 => k_asm); (case k5 => exact rfl); k_whole; intro h' t' dx' t1' t2' R' U'; (try dsimp only at U' ⊢)) | (refine' leaveOnP rfl ?k0 ?k1 ?k2 ?k3 ?k4 ?_; (case k3 => assumption); (case k0 => exact XIs.still (by assumption)); (case k1 => assumption); (case k2 => assumption); (case k4 => assumption); k_whole; intro h' R' U'; (try dsimp only at U' ⊢)))))
    | walk1 | (dsimp only; walk1) | (leave1; (try dsimp only))))
  all_goals (
    refine' post _ _ _ _ _ _ (n + 1) ?hp ?hf ?hn
    case hf => assumption
    case hn => exact news_sub (by assumption) (sub_app (ex := [_, _]) (by repeat (first | exact fun _ h => h | refine sub_tail ?_)))
    case hp => first | exact rfl | exact ⟨_, rfl⟩ | exact ⟨_, _, rfl⟩)
theorem note_add {w : World} {lC mA dA : Addr} {t1 t2 t3 tx : Tok} {x : Int} {nw : Led} (hst : x.fmod 7 = 3) (h1 : (mA, instObj 84 dA) ∈ nw) (h2 : (dA, multDict w t1 t2 t3 lC "s") ∈ nw) : Notes w lC "s.top.two.add" (fun its => its = #[]) 10 nw (.ref 165) [.ref mA, .int x tx] := by
  rw [show ("s.top.two.add" : Str) = (Str.empty ++ (Str.empty ++ (Str.empty ++ "s" ++ "." ++ "top") ++ "." ++ "two") ++ "." ++ "add") from by decide +kernel]
  unfold Notes
  w_top off
  k_fill
  intro dp un gd cn cs a ccd cl outer A₀ base h₀ L m s Q E p loose mean mg mb nw' g vs n B F X N T hk hd hu hn hlen U post
  have g1 := hn _ h1
  have g2 := hn _ h2
  have hL := updMem U
  refine wpAny_call ?_
  k_dflt cell_enter
  (repeat' (first
    | (k_unfold; (try dsimp only)) | (k_end; wrow_close)
    | (with_reducible (k_here; (with_reducible show wpAny _ _ (call (Value.builtin _) [Value.ref _, _]) _ _ _); k_dflt (refine' app_U ?F ?N ?U ?z ?_; (case F => k_asm); (case N => k_asm); (case U => k_updF); (case z => omega)); intro h' F' N' U' m'; (try dsimp only at N')))
    | (with_reducible (k_here; (with_reducible show wpAny _ _ (getMethod (Value.ref _) (PySem.Str.ofString "append") _) _ _ _); k_dflt (refine' kl_method ?N ?m PySem.F.slot_list_append PySem.F.type_list_append ?_; (case N => k_asm); (case m => (repeat (first | with_reducible assumption | with_reducible exact List.mem_cons_self .. | with_reducible refine List.mem_cons_of_mem _ ?_))))))
    | (with_reducible (k_here; (with_reducible show wpAny _ _ (binaryOp Operator.Mod (Value.int _ _) (Value.int 7 _)) _ _ _); (with_reducible rename Int.fmod _ 7 = _ => h4); (with_reducible refine PyProof.Rows.mod_int (by decide) ?_); (simp only [h4])))
    | ((with_reducible show wpAny _ _ (getAttr (Value.ref _) _ _) _ _ _); with_reducible (k_here; k_dflt (first | (with_reducible refine' mult_list ?X ?N ?h1 ?h2 ?_; (case X => k_in); (case N => k_asm); (case h1 => (repeat (first | with_reducible assumption | with_reducible exact List.mem_cons_self .. | with_reducible refine List.mem_cons_of_mem _ ?_))); (case h2 => (repeat (first | with_reducible assumption | with_reducible exact List.mem_cons_self .. | with_reducible refine List.mem_cons_of_mem _ ?_)))) | (with_reducible refine' mult_name ?X ?N ?h1 ?h2 ?_; (case X => k_in); (case N => k_asm); (case h1 => (repeat (first | with_reducible assumption | with_reducible exact List.mem_cons_self .. | with_reducible refine List.mem_cons_of_mem _ ?_))); (case h2 => (repeat (first | with_reducible assumption | with_reducible exact List.mem_cons_self .. | with_reducible refine List.mem_cons_of_mem _ ?_)))))))
    | ((with_reducible show wpAny _ _ (getAttr (Value.ref _) _ _) _ _ _); with_reducible (k_here; k_dflt (refine' hookA2 ?B ?F ?X ?N ?T ?hk ?hd ?hu ?hn ?ha ?h1 ?h2 ?miss ?_; (case B => k_asm); (case F => k_asm); (case X => k_asm); (case N => k_asm); (case T => k_asm); (case hk => exact rfl); (case hd => ((try dsimp only [ktrTop, Around.in1, Around.deeper]); omega)); (case hu => ((try dsimp only [ktrTop, Around.in1, Around.deeper]); omega)); (case h1 => (repeat (first | with_reducible assumption | with_reducible exact List.mem_cons_self .. | with_reducible refine List.mem_cons_of_mem _ ?_))); (case h2 => (repeat (first | with_reducible assumption | with_reducible exact List.mem_cons_self .. | with_reducible refine List.mem_cons_of_mem _ ?_))); (case hn => decide +kernel); (case ha => decide +kernel); (case miss => with_reducible first | exact fun _ _ _ _ _ => missm_put | exact fun _ _ _ _ _ => missm_top | exact fun _ _ _ _ _ => missm_take | exact fun _ _ _ _ _ => missm_two | exact fun _ _ _ _ _ => missm_add | exact fun _ _ _ _ _ => missm_turn | exact fun _ _ _ _ _ => missm_look | exact fun _ _ _ _ _ => missm_at | exact fun _ _ _ _ _ => missm_no | exact fun _ _ _ _ _ => missm_such)); intro h' tk' x' d' u1' u2' u3' F' N' l1 l2))
    | ((with_reducible show wpAny _ _ (getMethod (Value.ref _) _ _) _ _ _); with_reducible (k_here; k_dflt (refine' hookM2 ?B ?F ?X ?N ?T ?hk ?hd ?hu ?hn ?ha ?h1 ?h2 ?miss ?_; (case B => k_asm); (case F => k_asm); (case X => k_asm); (case N => k_asm); (case T => k_asm); (case hk => exact rfl); (case hd => ((try dsimp only [ktrTop, Around.in1, Around.deeper]); omega)); (case hu => ((try dsimp only [ktrTop, Around.in1, Around.deeper]); omega)); (case h1 => (repeat (first | with_reducible assumption | with_reducible exact List.mem_cons_self .. | with_reducible refine List.mem_cons_of_mem _ ?_))); (case h2 => (repeat (first | with_reducible assumption | with_reducible exact List.mem_cons_self .. | with_reducible refine List.mem_cons_of_mem _ ?_))); (case hn => decide +kernel); (case ha => decide +kernel); (case miss => with_reducible first | exact fun _ _ _ _ _ => missm_put | exact fun _ _ _ _ _ => missm_top | exact fun _ _ _ _ _ => missm_take | exact fun _ _ _ _ _ => missm_two | exact fun _ _ _ _ _ => missm_add | exact fun _ _ _ _ _ => missm_turn | exact fun _ _ _ _ _ => missm_look | exact fun _ _ _ _ _ => missm_at | exact fun _ _ _ _ _ => missm_no | exact fun _ _ _ _ _ => missm_such)); intro h' tk' x' d' u1' u2' u3' F' N' l1 l2))
    | (with_reducible ((with_reducible show FnAt _ _ ∧ _); refine' And.intro ?k1 ?_; (case k1 => refine' FnAt.of ?n0 ?n1; (case n0 => k_asm); (case n1 => (repeat (first | with_reducible assumption | with_reducible exact List.mem_cons_self .. | with_reducible refine List.mem_cons_of_mem _ ?_)))); (try dsimp only [List.nil_append, List.cons_append])))
    | ((with_reducible show wpAny _ _ (callWith _ (Value.ref _) _ _ _) _ _ _); with_reducible (k_here; (try dsimp only); k_dflt (refine' callWith_F ?k1 ?_; (case k1 => refine' FnAt.of ?n0 ?n1; (case n0 => k_asm); (case n1 => (repeat (first | with_reducible assumption | with_reducible exact List.mem_cons_self .. | with_reducible refine List.mem_cons_of_mem _ ?_)))); k_whole)))
    | (with_reducible (k_here; (with_reducible show wpAny _ _ (call (Value.ref _) _ _) _ _ _); k_dflt (refine wpAny_call ?_; refine' kco_code ?k1 ?k2 ?k3 ?k4 ?k5 ?k6 ?_; (case k1 => k_in); (case k2 => (refine' inst_N ?n0 ?n1 ?n2; (case n0 => k_asm); (case n1 => (repeat (first | with_reducible assumption | with_reducible exact List.mem_cons_self .. | with_reducible refine List.mem_cons_of_mem _ ?_))); (case n2 => (repeat (first | with_reducible assumption | with_reducible exact List.mem_cons_self .. | with_reducible refine List.mem_cons_of_mem _ ?_))))); (case k3 => rfl); (case k4 => k_is); (case k5 => k_is); (case k6 => k_is); (try dsimp only); k_enter)))
    | ((with_reducible show wpAny _ _ (leaving _ (Value.ref _)) _ _ _); with_reducible (k_here; k_dflt (first | (refine' leave_madeP ?k1 (Heap.MadeExc.of (by assumption)) ?k2 ?k3 ?_ ?k6 ?k5; (case k6 => exact rfl); (case k2 => assumption); (case k1 => assumption); (case k3 => k_asm); (case k5 => exact rfl); k_whole; intro h' t' R' U'; (try dsimp only at U' ⊢)) | (refine' leave_indexP ?k1 ?k0 ?k2 ?k3 ?_ ?k6 ?k5; (case k6 => exact rfl); (case k0 => assumption); (case k2 => assumption); (case k1 => assumption); (case k3 => k_asm); (case k5 => exact rfl); k_whole; intro h' R' U'; (try dsimp only at U' ⊢)) | (refine' leave_faultP ?k1 ?k0 ?k2 ?k3 ?_ ?k6 ?k5; (case k6 => exact rfl); (case k0 => assumption); (case k2 => assumption); (case k1 => assumption); (case k3 => k_asm); (case k5 => exact rfl); k_whole; intro h' t' dx' t1' t2' R' U'; (try dsimp only at U' ⊢)) | (refine' leaveOnP rfl ?k0 ?k1 ?k2 ?k3 ?k4 ?_; (case k3 => assumption); (case k0 => exact XIs.still (by assumption)); (case k1 => assumption); (case k2 => assumption); (case k4 => assumption); k_whole; intro h' R' U'; (try dsimp only at U' ⊢)))))
    | walk1 | (dsimp only; walk1) | (leave1; (try dsimp only))))
  all_goals (
    refine' post _ _ _ _ _ _ (n + 1) ?hp ?hf ?hn
    case hf => assumption
    case hn => exact news_sub (by assumption) (sub_app (ex := [_, _]) (by repeat (first | exact fun _ h => h | refine sub_tail ?_)))
    case hp => first | exact rfl | exact ⟨_, rfl⟩ | exact ⟨_, _, rfl⟩)
theorem note_turn {w : World} {lC mA dA : Addr} {t1 t2 t3 tx : Tok} {x : Int} {nw : Led} (hst : x.fmod 7 = 4) (h1 : (mA, instObj 84 dA) ∈ nw) (h2 : (dA, multDict w t1 t2 t3 lC "s") ∈ nw) : Notes w lC "s.turn" (fun its => ∃ ta, its = #[.int ((x.fdiv 7).fmod 10) ta]) 10 nw (.ref 165) [.ref mA, .int x tx] := by
  rw [show ("s.turn" : Str) = (Str.empty ++ "s" ++ "." ++ "turn") from by decide +kernel]
  unfold Notes
  w_top off
  k_fill
  intro dp un gd cn cs a ccd cl outer A₀ base h₀ L m s Q E p loose mean mg mb nw' g vs n B F X N T hk hd hu hn hlen U post
  have g1 := hn _ h1
  have g2 := hn _ h2
  have hL := updMem U
  refine wpAny_call ?_
  k_dflt cell_enter
  (repeat' (first
    | (k_unfold; (try dsimp only)) | (k_end; wrow_close)
    | (with_reducible (k_here; (with_reducible show wpAny _ _ (call (Value.builtin _) [Value.ref _, _]) _ _ _); k_dflt (refine' app_U ?F ?N ?U ?z ?_; (case F => k_asm); (case N => k_asm); (case U => k_updF); (case z => omega)); intro h' F' N' U' m'; (try dsimp only at N')))
    | (with_reducible (k_here; (with_reducible show wpAny _ _ (getMethod (Value.ref _) (PySem.Str.ofString "append") _) _ _ _); k_dflt (refine' kl_method ?N ?m PySem.F.slot_list_append PySem.F.type_list_append ?_; (case N => k_asm); (case m => (repeat (first | with_reducible assumption | with_reducible exact List.mem_cons_self .. | with_reducible refine List.mem_cons_of_mem _ ?_))))))
    | (with_reducible (k_here; (with_reducible show wpAny _ _ (binaryOp Operator.Mod (Value.int _ _) (Value.int 7 _)) _ _ _); (with_reducible rename Int.fmod _ 7 = _ => h4); (with_reducible refine PyProof.Rows.mod_int (by decide) ?_); (simp only [h4])))
    | ((with_reducible show wpAny _ _ (getAttr (Value.ref _) _ _) _ _ _); with_reducible (k_here; k_dflt (first | (with_reducible refine' mult_list ?X ?N ?h1 ?h2 ?_; (case X => k_in); (case N => k_asm); (case h1 => (repeat (first | with_reducible assumption | with_reducible exact List.mem_cons_self .. | with_reducible refine List.mem_cons_of_mem _ ?_))); (case h2 => (repeat (first | with_reducible assumption | with_reducible exact List.mem_cons_self .. | with_reducible refine List.mem_cons_of_mem _ ?_)))) | (with_reducible refine' mult_name ?X ?N ?h1 ?h2 ?_; (case X => k_in); (case N => k_asm); (case h1 => (repeat (first | with_reducible assumption | with_reducible exact List.mem_cons_self .. | with_reducible refine List.mem_cons_of_mem _ ?_))); (case h2 => (repeat (first | with_reducible assumption | with_reducible exact List.mem_cons_self .. | with_reducible refine List.mem_cons_of_mem _ ?_)))))))
    | ((with_reducible show wpAny _ _ (getAttr (Value.ref _) _ _) _ _ _); with_reducible (k_here; k_dflt (refine' hookA2 ?B ?F ?X ?N ?T ?hk ?hd ?hu ?hn ?ha ?h1 ?h2 ?miss ?_; (case B => k_asm); (case F => k_asm); (case X => k_asm); (case N => k_asm); (case T => k_asm); (case hk => exact rfl); (case hd => ((try dsimp only [ktrTop, Around.in1, Around.deeper]); omega)); (case hu => ((try dsimp only [ktrTop, Around.in1, Around.deeper]); omega)); (case h1 => (repeat (first | with_reducible assumption | with_reducible exact List.mem_cons_self .. | with_reducible refine List.mem_cons_of_mem _ ?_))); (case h2 => (repeat (first | with_reducible assumption | with_reducible exact List.mem_cons_self .. | with_reducible refine List.mem_cons_of_mem _ ?_))); (case hn => decide +kernel); (case ha => decide +kernel); (case miss => with_reducible first | exact fun _ _ _ _ _ => missm_put | exact fun _ _ _ _ _ => missm_top | exact fun _ _ _ _ _ => missm_take | exact fun _ _ _ _ _ => missm_two | exact fun _ _ _ _ _ => missm_add | exact fun _ _ _ _ _ => missm_turn | exact fun _ _ _ _ _ => missm_look | exact fun _ _ _ _ _ => missm_at | exact fun _ _ _ _ _ => missm_no | exact fun _ _ _ _ _ => missm_such)); intro h' tk' x' d' u1' u2' u3' F' N' l1 l2))
    | ((with_reducible show wpAny _ _ (getMethod (Value.ref _) _ _) _ _ _); with_reducible (k_here; k_dflt (refine' hookM2 ?B ?F ?X ?N ?T ?hk ?hd ?hu ?hn ?ha ?h1 ?h2 ?miss ?_; (case B => k_asm); (case F => k_asm); (case X => k_asm); (case N => k_asm); (case T => k_asm); (case hk => exact rfl); (case hd => ((try dsimp only [ktrTop, Around.in1, Around.deeper]); omega)); (case hu => ((try dsimp only [ktrTop, Around.in1, Around.deeper]); omega)); (case h1 => (repeat (first | with_reducible assumption | with_reducible exact List.mem_cons_self .. | with_reducible refine List.mem_cons_of_mem _ ?_))); (case h2 => (repeat (first | with_reducible assumption | with_reducible exact List.mem_cons_self .. | with_reducible refine List.mem_cons_of_mem _ ?_))); (case hn => decide +kernel); (case ha => decide +kernel); (case miss => with_reducible first | exact fun _ _ _ _ _ => missm_put | exact fun _ _ _ _ _ => missm_top | exact fun _ _ _ _ _ => missm_take | exact fun _ _ _ _ _ => missm_two | exact fun _ _ _ _ _ => missm_add | exact fun _ _ _ _ _ => missm_turn | exact fun _ _ _ _ _ => missm_look | exact fun _ _ _ _ _ => missm_at | exact fun _ _ _ _ _ => missm_no | exact fun _ _ _ _ _ => missm_such)); intro h' tk' x' d' u1' u2' u3' F' N' l1 l2))
    | (with_reducible ((with_reducible show FnAt _ _ ∧ _); refine' And.intro ?k1 ?_; (case k1 => refine' FnAt.of ?n0 ?n1; (case n0 => k_asm); (case n1 => (repeat (first | with_reducible assumption | with_reducible exact List.mem_cons_self .. | with_reducible refine List.mem_cons_of_mem _ ?_)))); (try dsimp only [List.nil_append, List.cons_append])))
    | ((with_reducible show wpAny _ _ (callWith _ (Value.ref _) _ _ _) _ _ _); with_reducible (k_here; (try dsimp only); k_dflt (refine' callWith_F ?k1 ?_; (case k1 => refine' FnAt.of ?n0 ?n1; (case n0 => k_asm); (case n1 => (repeat (first | with_reducible assumption | with_reducible exact List.mem_cons_self .. | with_reducible refine List.mem_cons_of_mem _ ?_)))); k_whole)))
    | (with_reducible (k_here; (with_reducible show wpAny _ _ (call (Value.ref _) _ _) _ _ _); k_dflt (refine wpAny_call ?_; refine' kco_code ?k1 ?k2 ?k3 ?k4 ?k5 ?k6 ?_; (case k1 => k_in); (case k2 => (refine' inst_N ?n0 ?n1 ?n2; (case n0 => k_asm); (case n1 => (repeat (first | with_reducible assumption | with_reducible exact List.mem_cons_self .. | with_reducible refine List.mem_cons_of_mem _ ?_))); (case n2 => (repeat (first | with_reducible assumption | with_reducible exact List.mem_cons_self .. | with_reducible refine List.mem_cons_of_mem _ ?_))))); (case k3 => rfl); (case k4 => k_is); (case k5 => k_is); (case k6 => k_is); (try dsimp only); k_enter)))
    | ((with_reducible show wpAny _ _ (leaving _ (Value.ref _)) _ _ _); with_reducible (k_here; k_dflt (first | (refine' leave_madeP ?k1 (Heap.MadeExc.of (by assumption)) ?k2 ?k3 ?_ ?k6 ?k5; (case k6 => exact rfl); (case k2 => assumption); (case k1 => assumption); (case k3 => k_asm); (case k5 => exact rfl); k_whole; intro h' t' R' U'; (try dsimp only at U' ⊢)) | (refine' leave_indexP ?k1 ?k0 ?k2 ?k3 ?_ ?k6 ?k5; (case k6 => exact rfl); (case k0 => assumption); (case k2 => assumption); (case k1 => assumption); (case k3 => k_asm); (case k5 => exact rfl); k_whole; intro h' R' U'; (try dsimp only at U' ⊢)) | (refine' leave_faultP ?k1 ?k0 ?k2 ?k3 ?_ ?k6 ?k5; (case k6 => exact rfl); (case k0 => assumption); (case k2 => assumption); (case k1 => assumption); (case k3 => k_asm); (case k5 => exact rfl); k_whole; intro h' t' dx' t1' t2' R' U'; (try dsimp only at U' ⊢)) | (refine' leaveOnP rfl ?k0 ?k1 ?k2 ?k3 ?k4 ?_; (case k3 => assumption); (case k0 => exact XIs.still (by assumption)); (case k1 => assumption); (case k2 => assumption); (case k4 => assumption); k_whole; intro h' R' U'; (try dsimp only at U' ⊢)))))
    | walk1 | (dsimp only; walk1) | (leave1; (try dsimp only))))
  all_goals (
    refine' post _ _ _ _ _ _ (n + 1) ?hp ?hf ?hn
    case hf => assumption
    case hn => exact news_sub (by assumption) (sub_app (ex := [_, _]) (by repeat (first | exact fun _ h => h | refine sub_tail ?_)))
    case hp => first | exact rfl | exact ⟨_, rfl⟩ | exact ⟨_, _, rfl⟩)
theorem note_look {w : World} {lC mA dA : Addr} {t1 t2 t3 tx : Tok} {x : Int} {nw : Led} (hst : x.fmod 7 = 5) (h1 : (mA, instObj 84 dA) ∈ nw) (h2 : (dA, multDict w t1 t2 t3 lC "s") ∈ nw) : Notes w lC "s.look.at" (fun its => ∃ ta tb, its = #[.int ((x.fdiv 7).fmod 6) ta, .str "please" tb]) 10 nw (.ref 165) [.ref mA, .int x tx] := by
  rw [show ("s.look.at" : Str) = (Str.empty ++ (Str.empty ++ "s" ++ "." ++ "look") ++ "." ++ "at") from by decide +kernel]
  unfold Notes
  w_top off
  k_fill
  intro dp un gd cn cs a ccd cl outer A₀ base h₀ L m s Q E p loose mean mg mb nw' g vs n B F X N T hk hd hu hn hlen U post
  have g1 := hn _ h1
  have g2 := hn _ h2
  have hL := updMem U
  refine wpAny_call ?_
  k_dflt cell_enter
  (repeat' (first
    | (k_unfold; (try dsimp only)) | (k_end; wrow_close)
    | (with_reducible (k_here; (with_reducible show wpAny _ _ (call (Value.builtin _) [Value.ref _, _]) _ _ _); k_dflt (refine' app_U ?F ?N ?U ?z ?_; (case F => k_asm); (case N => k_asm); (case U => k_updF); (case z => omega)); intro h' F' N' U' m'; (try dsimp only at N')))
    | (with_reducible (k_here; (with_reducible show wpAny _ _ (getMethod (Value.ref _) (PySem.Str.ofString "append") _) _ _ _); k_dflt (refine' kl_method ?N ?m PySem.F.slot_list_append PySem.F.type_list_append ?_; (case N => k_asm); (case m => (repeat (first | with_reducible assumption | with_reducible exact List.mem_cons_self .. | with_reducible refine List.mem_cons_of_mem _ ?_))))))
    | (with_reducible (k_here; (with_reducible show wpAny _ _ (binaryOp Operator.Mod (Value.int _ _) (Value.int 7 _)) _ _ _); (with_reducible rename Int.fmod _ 7 = _ => h4); (with_reducible refine PyProof.Rows.mod_int (by decide) ?_); (simp only [h4])))
    | ((with_reducible show wpAny _ _ (getAttr (Value.ref _) _ _) _ _ _); with_reducible (k_here; k_dflt (first | (with_reducible refine' mult_list ?X ?N ?h1 ?h2 ?_; (case X => k_in); (case N => k_asm); (case h1 => (repeat (first | with_reducible assumption | with_reducible exact List.mem_cons_self .. | with_reducible refine List.mem_cons_of_mem _ ?_))); (case h2 => (repeat (first | with_reducible assumption | with_reducible exact List.mem_cons_self .. | with_reducible refine List.mem_cons_of_mem _ ?_)))) | (with_reducible refine' mult_name ?X ?N ?h1 ?h2 ?_; (case X => k_in); (case N => k_asm); (case h1 => (repeat (first | with_reducible assumption | with_reducible exact List.mem_cons_self .. | with_reducible refine List.mem_cons_of_mem _ ?_))); (case h2 => (repeat (first | with_reducible assumption | with_reducible exact List.mem_cons_self .. | with_reducible refine List.mem_cons_of_mem _ ?_)))))))
    | ((with_reducible show wpAny _ _ (getAttr (Value.ref _) _ _) _ _ _); with_reducible (k_here; k_dflt (refine' hookA2 ?B ?F ?X ?N ?T ?hk ?hd ?hu ?hn ?ha ?h1 ?h2 ?miss ?_; (case B => k_asm); (case F => k_asm); (case X => k_asm); (case N => k_asm); (case T => k_asm); (case hk => exact rfl); (case hd => ((try dsimp only [ktrTop, Around.in1, Around.deeper]); omega)); (case hu => ((try dsimp only [ktrTop, Around.in1, Around.deeper]); omega)); (case h1 => (repeat (first | with_reducible assumption | with_reducible exact List.mem_cons_self .. | with_reducible refine List.mem_cons_of_mem _ ?_))); (case h2 => (repeat (first | with_reducible assumption | with_reducible exact List.mem_cons_self .. | with_reducible refine List.mem_cons_of_mem _ ?_))); (case hn => decide +kernel); (case ha => decide +kernel); (case miss => with_reducible first | exact fun _ _ _ _ _ => missm_put | exact fun _ _ _ _ _ => missm_top | exact fun _ _ _ _ _ => missm_take | exact fun _ _ _ _ _ => missm_two | exact fun _ _ _ _ _ => missm_add | exact fun _ _ _ _ _ => missm_turn | exact fun _ _ _ _ _ => missm_look | exact fun _ _ _ _ _ => missm_at | exact fun _ _ _ _ _ => missm_no | exact fun _ _ _ _ _ => missm_such)); intro h' tk' x' d' u1' u2' u3' F' N' l1 l2))
    | ((with_reducible show wpAny _ _ (getMethod (Value.ref _) _ _) _ _ _); with_reducible (k_here; k_dflt (refine' hookM2 ?B ?F ?X ?N ?T ?hk ?hd ?hu ?hn ?ha ?h1 ?h2 ?miss ?_; (case B => k_asm); (case F => k_asm); (case X => k_asm); (case N => k_asm); (case T => k_asm); (case hk => exact rfl); (case hd => ((try dsimp only [ktrTop, Around.in1, Around.deeper]); omega)); (case hu => ((try dsimp only [ktrTop, Around.in1, Around.deeper]); omega)); (case h1 => (repeat (first | with_reducible assumption | with_reducible exact List.mem_cons_self .. | with_reducible refine List.mem_cons_of_mem _ ?_))); (case h2 => (repeat (first | with_reducible assumption | with_reducible exact List.mem_cons_self .. | with_reducible refine List.mem_cons_of_mem _ ?_))); (case hn => decide +kernel); (case ha => decide +kernel); (case miss => with_reducible first | exact fun _ _ _ _ _ => missm_put | exact fun _ _ _ _ _ => missm_top | exact fun _ _ _ _ _ => missm_take | exact fun _ _ _ _ _ => missm_two | exact fun _ _ _ _ _ => missm_add | exact fun _ _ _ _ _ => missm_turn | exact fun _ _ _ _ _ => missm_look | exact fun _ _ _ _ _ => missm_at | exact fun _ _ _ _ _ => missm_no | exact fun _ _ _ _ _ => missm_such)); intro h' tk' x' d' u1' u2' u3' F' N' l1 l2))
    | (with_reducible ((with_reducible show FnAt _ _ ∧ _); refine' And.intro ?k1 ?_; (case k1 => refine' FnAt.of ?n0 ?n1; (case n0 => k_asm); (case n1 => (repeat (first | with_reducible assumption | with_reducible exact List.mem_cons_self .. | with_reducible refine List.mem_cons_of_mem _ ?_)))); (try dsimp only [List.nil_append, List.cons_append])))
    | ((with_reducible show wpAny _ _ (callWith _ (Value.ref _) _ _ _) _ _ _); with_reducible (k_here; (try dsimp only); k_dflt (refine' callWith_F ?k1 ?_; (case k1 => refine' FnAt.of ?n0 ?n1; (case n0 => k_asm); (case n1 => (repeat (first | with_reducible assumption | with_reducible exact List.mem_cons_self .. | with_reducible refine List.mem_cons_of_mem _ ?_)))); k_whole)))
    | (with_reducible (k_here; (with_reducible show wpAny _ _ (call (Value.ref _) _ _) _ _ _); k_dflt (refine wpAny_call ?_; refine' kco_code ?k1 ?k2 ?k3 ?k4 ?k5 ?k6 ?_; (case k1 => k_in); (case k2 => (refine' inst_N ?n0 ?n1 ?n2; (case n0 => k_asm); (case n1 => (repeat (first | with_reducible assumption | with_reducible exact List.mem_cons_self .. | with_reducible refine List.mem_cons_of_mem _ ?_))); (case n2 => (repeat (first | with_reducible assumption | with_reducible exact List.mem_cons_self .. | with_reducible refine List.mem_cons_of_mem _ ?_))))); (case k3 => rfl); (case k4 => k_is); (case k5 => k_is); (case k6 => k_is); (try dsimp only); k_enter)))
    | ((with_reducible show wpAny _ _ (leaving _ (Value.ref _)) _ _ _); with_reducible (k_here; k_dflt (first | (refine' leave_madeP ?k1 (Heap.MadeExc.of (by assumption)) ?k2 ?k3 ?_ ?k6 ?k5; (case k6 => exact rfl); (case k2 => assumption); (case k1 => assumption); (case k3 => k_asm); (case k5 => exact rfl); k_whole; intro h' t' R' U'; (try dsimp only at U' ⊢)) | (refine' leave_indexP ?k1 ?k0 ?k2 ?k3 ?_ ?k6 ?k5; (case k6 => exact rfl); (case k0 => assumption); (case k2 => assumption); (case k1 => assumption); (case k3 => k_asm); (case k5 => exact rfl); k_whole; intro h' R' U'; (try dsimp only at U' ⊢)) | (refine' leave_faultP ?k1 ?k0 ?k2 ?k3 ?_ ?k6 ?k5; (case k6 => exact rfl); (case k0 => assumption); (case k2 => assumption); (case k1 => assumption); (case k3 => k_asm); (case k5 => exact rfl); k_whole; intro h' t' dx' t1' t2' R' U'; (try dsimp only at U' ⊢)) | (refine' leaveOnP rfl ?k0 ?k1 ?k2 ?k3 ?k4 ?_; (case k3 => assumption); (case k0 => exact XIs.still (by assumption)); (case k1 => assumption); (case k2 => assumption); (case k4 => assumption); k_whole; intro h' R' U'; (try dsimp only at U' ⊢)))))
    | walk1 | (dsimp only; walk1) | (leave1; (try dsimp only))))
  all_goals (
    refine' post _ _ _ _ _ _ (n + 1) ?hp ?hf ?hn
    case hf => assumption
    case hn => exact news_sub (by assumption) (sub_app (ex := [_, _]) (by repeat (first | exact fun _ h => h | refine sub_tail ?_)))
    case hp => first | exact rfl | exact ⟨_, rfl⟩ | exact ⟨_, _, rfl⟩)
theorem note_other {w : World} {lC mA dA : Addr} {t1 t2 t3 tx : Tok} {x : Int} {nw : Led} (hst : x.fmod 7 = 6) (h1 : (mA, instObj 84 dA) ∈ nw) (h2 : (dA, multDict w t1 t2 t3 lC "s") ∈ nw) : Notes w lC "s._no.such" (fun its => ∃ ta, its = #[.int ((x.fdiv 7).fmod 3) ta, .bool (((x.fdiv 7).fmod 2) == 1), .none]) 10 nw (.ref 165) [.ref mA, .int x tx] := by
  rw [show ("s._no.such" : Str) = (Str.empty ++ (Str.empty ++ "s" ++ "." ++ "_no") ++ "." ++ "such") from by decide +kernel]
  unfold Notes
  w_top off
  k_fill
  intro dp un gd cn cs a ccd cl outer A₀ base h₀ L m s Q E p loose mean mg mb nw' g vs n B F X N T hk hd hu hn hlen U post
  have g1 := hn _ h1
  have g2 := hn _ h2
  have hL := updMem U
  refine wpAny_call ?_
  k_dflt cell_enter
  (repeat' (first
    | (k_unfold; (try dsimp only)) | (k_end; wrow_close)
    | (with_reducible (k_here; (with_reducible show wpAny _ _ (call (Value.builtin _) [Value.ref _, _]) _ _ _); k_dflt (refine' app_U ?F ?N ?U ?z ?_; (case F => k_asm); (case N => k_asm); (case U => k_updF); (case z => omega)); intro h' F' N' U' m'; (try dsimp only at N')))
    | (with_reducible (k_here; (with_reducible show wpAny _ _ (getMethod (Value.ref _) (PySem.Str.ofString "append") _) _ _ _); k_dflt (refine' kl_method ?N ?m PySem.F.slot_list_append PySem.F.type_list_append ?_; (case N => k_asm); (case m => (repeat (first | with_reducible assumption | with_reducible exact List.mem_cons_self .. | with_reducible refine List.mem_cons_of_mem _ ?_))))))
    | (with_reducible (k_here; (with_reducible show wpAny _ _ (binaryOp Operator.Mod (Value.int _ _) (Value.int 7 _)) _ _ _); (with_reducible rename Int.fmod _ 7 = _ => h4); (with_reducible refine PyProof.Rows.mod_int (by decide) ?_); (simp only [h4])))
    | ((with_reducible show wpAny _ _ (getAttr (Value.ref _) _ _) _ _ _); with_reducible (k_here; k_dflt (first | (with_reducible refine' mult_list ?X ?N ?h1 ?h2 ?_; (case X => k_in); (case N => k_asm); (case h1 => (repeat (first | with_reducible assumption | with_reducible exact List.mem_cons_self .. | with_reducible refine List.mem_cons_of_mem _ ?_))); (case h2 => (repeat (first | with_reducible assumption | with_reducible exact List.mem_cons_self .. | with_reducible refine List.mem_cons_of_mem _ ?_)))) | (with_reducible refine' mult_name ?X ?N ?h1 ?h2 ?_; (case X => k_in); (case N => k_asm); (case h1 => (repeat (first | with_reducible assumption | with_reducible exact List.mem_cons_self .. | with_reducible refine List.mem_cons_of_mem _ ?_))); (case h2 => (repeat (first | with_reducible assumption | with_reducible exact List.mem_cons_self .. | with_reducible refine List.mem_cons_of_mem _ ?_)))))))
    | ((with_reducible show wpAny _ _ (getAttr (Value.ref _) _ _) _ _ _); with_reducible (k_here; k_dflt (refine' hookA2 ?B ?F ?X ?N ?T ?hk ?hd ?hu ?hn ?ha ?h1 ?h2 ?miss ?_; (case B => k_asm); (case F => k_asm); (case X => k_asm); (case N => k_asm); (case T => k_asm); (case hk => exact rfl); (case hd => ((try dsimp only [ktrTop, Around.in1, Around.deeper]); omega)); (case hu => ((try dsimp only [ktrTop, Around.in1, Around.deeper]); omega)); (case h1 => (repeat (first | with_reducible assumption | with_reducible exact List.mem_cons_self .. | with_reducible refine List.mem_cons_of_mem _ ?_))); (case h2 => (repeat (first | with_reducible assumption | with_reducible exact List.mem_cons_self .. | with_reducible refine List.mem_cons_of_mem _ ?_))); (case hn => decide +kernel); (case ha => decide +kernel); (case miss => with_reducible first | exact fun _ _ _ _ _ => missm_put | exact fun _ _ _ _ _ => missm_top | exact fun _ _ _ _ _ => missm_take | exact fun _ _ _ _ _ => missm_two | exact fun _ _ _ _ _ => missm_add | exact fun _ _ _ _ _ => missm_turn | exact fun _ _ _ _ _ => missm_look | exact fun _ _ _ _ _ => missm_at | exact fun _ _ _ _ _ => missm_no | exact fun _ _ _ _ _ => missm_such)); intro h' tk' x' d' u1' u2' u3' F' N' l1 l2))
    | ((with_reducible show wpAny _ _ (getMethod (Value.ref _) _ _) _ _ _); with_reducible (k_here; k_dflt (refine' hookM2 ?B ?F ?X ?N ?T ?hk ?hd ?hu ?hn ?ha ?h1 ?h2 ?miss ?_; (case B => k_asm); (case F => k_asm); (case X => k_asm); (case N => k_asm); (case T => k_asm); (case hk => exact rfl); (case hd => ((try dsimp only [ktrTop, Around.in1, Around.deeper]); omega)); (case hu => ((try dsimp only [ktrTop, Around.in1, Around.deeper]); omega)); (case h1 => (repeat (first | with_reducible assumption | with_reducible exact List.mem_cons_self .. | with_reducible refine List.mem_cons_of_mem _ ?_))); (case h2 => (repeat (first | with_reducible assumption | with_reducible exact List.mem_cons_self .. | with_reducible refine List.mem_cons_of_mem _ ?_))); (case hn => decide +kernel); (case ha => decide +kernel); (case miss => with_reducible first | exact fun _ _ _ _ _ => missm_put | exact fun _ _ _ _ _ => missm_top | exact fun _ _ _ _ _ => missm_take | exact fun _ _ _ _ _ => missm_two | exact fun _ _ _ _ _ => missm_add | exact fun _ _ _ _ _ => missm_turn | exact fun _ _ _ _ _ => missm_look | exact fun _ _ _ _ _ => missm_at | exact fun _ _ _ _ _ => missm_no | exact fun _ _ _ _ _ => missm_such)); intro h' tk' x' d' u1' u2' u3' F' N' l1 l2))
    | (with_reducible ((with_reducible show FnAt _ _ ∧ _); refine' And.intro ?k1 ?_; (case k1 => refine' FnAt.of ?n0 ?n1; (case n0 => k_asm); (case n1 => (repeat (first | with_reducible assumption | with_reducible exact List.mem_cons_self .. | with_reducible refine List.mem_cons_of_mem _ ?_)))); (try dsimp only [List.nil_append, List.cons_append])))
    | ((with_reducible show wpAny _ _ (callWith _ (Value.ref _) _ _ _) _ _ _); with_reducible (k_here; (try dsimp only); k_dflt (refine' callWith_F ?k1 ?_; (case k1 => refine' FnAt.of ?n0 ?n1; (case n0 => k_asm); (case n1 => (repeat (first | with_reducible assumption | with_reducible exact List.mem_cons_self .. | with_reducible refine List.mem_cons_of_mem _ ?_)))); k_whole)))
    | (with_reducible (k_here; (with_reducible show wpAny _ _ (call (Value.ref _) _ _) _ _ _); k_dflt (refine wpAny_call ?_; refine' kco_code ?k1 ?k2 ?k3 ?k4 ?k5 ?k6 ?_; (case k1 => k_in); (case k2 => (refine' inst_N ?n0 ?n1 ?n2; (case n0 => k_asm); (case n1 => (repeat (first | with_reducible assumption | with_reducible exact List.mem_cons_self .. | with_reducible refine List.mem_cons_of_mem _ ?_))); (case n2 => (repeat (first | with_reducible assumption | with_reducible exact List.mem_cons_self .. | with_reducible refine List.mem_cons_of_mem _ ?_))))); (case k3 => rfl); (case k4 => k_is); (case k5 => k_is); (case k6 => k_is); (try dsimp only); k_enter)))
    | ((with_reducible show wpAny _ _ (leaving _ (Value.ref _)) _ _ _); with_reducible (k_here; k_dflt (first | (refine' leave_madeP ?k1 (Heap.MadeExc.of (by assumption)) ?k2 ?k3 ?_ ?k6 ?k5; (case k6 => exact rfl); (case k2 => assumption); (case k1 => assumption); (case k3 => k_asm); (case k5 => exact rfl); k_whole; intro h' t' R' U'; (try dsimp only at U' ⊢)) | (refine' leave_indexP ?k1 ?k0 ?k2 ?k3 ?_ ?k6 ?k5; (case k6 => exact rfl); (case k0 => assumption); (case k2 => assumption); (case k1 => assumption); (case k3 => k_asm); (case k5 => exact rfl); k_whole; intro h' R' U'; (try dsimp only at U' ⊢)) | (refine' leave_faultP ?k1 ?k0 ?k2 ?k3 ?_ ?k6 ?k5; (case k6 => exact rfl); (case k0 => assumption); (case k2 => assumption); (case k1 => assumption); (case k3 => k_asm); (case k5 => exact rfl); k_whole; intro h' t' dx' t1' t2' R' U'; (try dsimp only at U' ⊢)) | (refine' leaveOnP rfl ?k0 ?k1 ?k2 ?k3 ?k4 ?_; (case k3 => assumption); (case k0 => exact XIs.still (by assumption)); (case k1 => assumption); (case k2 => assumption); (case k4 => assumption); k_whole; intro h' R' U'; (try dsimp only at U' ⊢)))))
    | walk1 | (dsimp only; walk1) | (leave1; (try dsimp only))))
  all_goals (
    refine' post _ _ _ _ _ _ (n + 1) ?hp ?hf ?hn
    case hf => assumption
    case hn => exact news_sub (by assumption) (sub_app (ex := [_, _]) (by repeat (first | exact fun _ h => h | refine sub_tail ?_)))
    case hp => first | exact rfl | exact ⟨_, rfl⟩ | exact ⟨_, _, rfl⟩)
end Mine
end
section
open PySem PySem.W PyProof.Rows PySem.Calls PySem.SeqAt
set_option Elab.async false
set_option maxRecDepth 100000
set_option maxHeartbeats 8000000
namespace Mine
/-- the pair that the law's own table gives -/
inductive PairR (x : Int) (nx : Led) : Value → Prop
  | mk (t2 : Addr) (v1 v2 : Value) (u0 u1 u2 u3 u4 u5 u6 : Tok) (a0 a1 a2 a3 a4 a5 a6 : Addr) (b0 b1 b2 b3 b4 b5 : Tok)
      (h : (t2, tupOf #[v1, v2]) ∈ nx) (h1 : At #[.str "s.put" u0, .str "s.put" u1, .str "s.top.take" u2, .str "s.top.two.add" u3, .str "s.turn" u4, .str "s.look.at" u5, .str "s._no.such" u6] (x.fmod 7) v1)
      (h2 : At #[.ref a0, .ref a1, .ref a2, .ref a3, .ref a4, .ref a5, .ref a6] (x.fmod 7) v2)
      (k0 : (a0, tupOf #[.int (x.fdiv 7) b0]) ∈ nx) (k1 : (a1, tupOf #[.int (x.fdiv 7) b1]) ∈ nx) (k2 : (a2, tupOf #[]) ∈ nx) (k3 : (a3, tupOf #[]) ∈ nx) (k4 : (a4, tupOf #[.int ((x.fdiv 7).fmod 10) b2]) ∈ nx)
      (k5 : (a5, tupOf #[.int ((x.fdiv 7).fmod 6) b3, .str "please" b4]) ∈ nx) (k6 : (a6, tupOf #[.int ((x.fdiv 7).fmod 3) b5, .bool ((x.fdiv 7).fmod 2 == 1), .none]) ∈ nx) : PairR x nx (.ref t2)
def GivesPair (w : World) (x : Int) : Prop :=
  ∀ (tx : Tok) (dp un : Nat) (gd : Option (List Code)) (cn : Str) (cs : Scope) (a : Addr) (ccd : Value) (cl : List (Str × Addr)) (outer : List Env) (A₀ : Around) (base h₀ : Heap) (L : Addr) (m : Str → Option Value) (s : Shared) (Q E : Value → Shared → Prop)
    (p : Program) (loose : List Str) (mean : ExcName → Option Value) (mg mb : Str → Option Value) (nw' : Led),
    Below A₀ base outer h₀ → Fr h₀ L s.heap m → (topH.heap_1 w.params).In h₀ → News h₀ L s.heap nw' → Top p loose mean mg mb h₀ → cs.kind = .function → dp + 3 ≤ 390 → un + 24 ≤ 400 →
    (∀ h' tk' v ex, PairR x ex v → (∀ q ∈ ex, ∀ q' ∈ nw', q'.1 < q.1) → Fr h₀ L h' m → News h₀ L h' (ex ++ nw') → Q v { s with heap := h', toks := tk' }) →
    wpAny (model PySem.Challenge.rw_kn0109_04.row.prog w) (ktrTop dp un gd cn cs L a ccd cl outer) (call (.ref 172) [.int x tx]) Q E s
theorem PairR.mono {x : Int} {nx nx2 : Led} {v : Value} (h : PairR x nx v) (s : ∀ q ∈ nx, q ∈ nx2) : PairR x nx2 v := by
  cases h with
  | mk t2 v1 v2 u0 u1 u2 u3 u4 u5 u6 a0 a1 a2 a3 a4 a5 a6 b0 b1 b2 b3 b4 b5 h h1 h2 k0 k1 k2 k3 k4 k5 k6 =>
    exact .mk t2 v1 v2 u0 u1 u2 u3 u4 u5 u6 a0 a1 a2 a3 a4 a5 a6 b0 b1 b2 b3 b4 b5 (s _ h) h1 h2 (s _ k0) (s _ k1) (s _ k2) (s _ k3) (s _ k4) (s _ k5) (s _ k6)
theorem fr_cons {nw ex : Led} {a : Addr} {o : Obj} (h : AllLt a (ex ++ nw)) (k : ∀ q ∈ ex, ∀ q' ∈ nw, q'.1 < q.1) : ∀ q ∈ (a, o) :: ex, ∀ q' ∈ nw, q'.1 < q.1 := fun q hq q' hq' => by
  rcases List.mem_cons.mp hq with rfl | hq
  · exact ktn_ltOf h q' (List.mem_append_right _ hq')
  · exact k q hq q' hq'
theorem fr_one {nw : Led} {a : Addr} {o : Obj} (h : ∀ p ∈ nw, p.1 < a) : ∀ q ∈ [(a, o)], ∀ q' ∈ nw, q'.1 < q.1 := fun q hq q' hq' => by
  rw [List.mem_singleton.mp hq]; exact h q' hq'
theorem item_some {prog : Program} {w : World} {A : Around} {E : Value → Shared → Prop} {h₀ h : Heap} {L : Addr} {g d os} {tk : Nat} {news : Led} {value slice : PySem.Expr} {l : Addr} {vs : Array Value} {n : Nat} {k : Int} {u : Tok} {Q : Value → Shared → Prop} (N : News h₀ L h news) (hm : (l, listOf vs n) ∈ news) (h0 : 0 ≤ k) (h1 : k < vs.size) (h2 : k < 2 ^ 63)
    (post : ∀ v, At vs k v → Q v ⟨h, g, d, tk, os⟩) (hs : subscripted slice false (.ref l) (.int k u) = operate [.ref l, .int k u] (getItem (.ref l) (.int k u)) := by with_unfolding_all rfl) :
    wpAny (model prog w) A (subscriptTail value slice (.ref l) (.int k u)) Q E ⟨h, g, d, tk, os⟩ := by
  have hk : k.toNat < vs.size := by omega
  have ha : At vs k vs[k.toNat] := .inl ⟨h0, h2, Array.getElem?_eq_getElem hk⟩
  exact item_at (N.isList hm) ha (post _ ha) hs
theorem pair_any {w : World} {x : Int} : GivesPair w x := by
  unfold GivesPair
  w_top off
  k_fill
  intro tx dp un gd cn cs a ccd cl outer A₀ base h₀ L m s Q E p loose mean mg mb nw' B F X N T hk hd hu post
  have hf0 : 0 ≤ x.fmod 7 := Int.fmod_nonneg_of_pos _ (by decide)
  have hf1 : x.fmod 7 < 7 := Int.fmod_lt_of_pos _ (by decide)
  refine wpAny_call ?_
  k_dflt cell_enter
  (repeat' (first
    | (k_unfold; (try dsimp only)) | (k_end; wrow_close)
    | (with_reducible (k_here; (with_reducible show wpAny _ _ (subscriptTail _ _ (Value.ref _) (Value.int _ _)) _ _ _); k_dflt (refine' item_some ?N ?hm ?h0 ?h1 ?h2 ?_; (case N => k_asm); (case hm => k_mem); (case h0 => assumption); (case h1 => (simp; omega)); (case h2 => omega); k_whole; intro v' A')))
    | walk1 | (dsimp only; walk1) | (leave1; (try dsimp only))))
  all_goals (
    refine' post _ _ _ [_, _, _, _, _, _, _, _, _, _] ?r ?s ?f ?n
    case n => assumption
    case f => assumption
    case r => exact .mk _ _ _ _ _ _ _ _ _ _ _ _ _ _ _ _ _ _ _ _ _ _ _ (by repeat (first | with_reducible exact List.mem_cons_self .. | with_reducible refine List.mem_cons_of_mem _ ?_)) (by assumption) (by assumption) (by repeat (first | with_reducible exact List.mem_cons_self .. | with_reducible refine List.mem_cons_of_mem _ ?_)) (by repeat (first | with_reducible exact List.mem_cons_self .. | with_reducible refine List.mem_cons_of_mem _ ?_)) (by repeat (first | with_reducible exact List.mem_cons_self .. | with_reducible refine List.mem_cons_of_mem _ ?_)) (by repeat (first | with_reducible exact List.mem_cons_self .. | with_reducible refine List.mem_cons_of_mem _ ?_)) (by repeat (first | with_reducible exact List.mem_cons_self .. | with_reducible refine List.mem_cons_of_mem _ ?_)) (by repeat (first | with_reducible exact List.mem_cons_self .. | with_reducible refine List.mem_cons_of_mem _ ?_)) (by repeat (first | with_reducible exact List.mem_cons_self .. | with_reducible refine List.mem_cons_of_mem _ ?_))
    case s => (repeat (first | exact fr_one (by assumption) | refine fr_cons (by assumption) ?_)))
end Mine
end
section
open PySem PySem.W PyProof.Rows PySem.Calls PySem.SeqAt
set_option Elab.async false
set_option maxRecDepth 100000
set_option maxHeartbeats 8000000
namespace Mine
/-- what the server does at the number `x`: the heap behind, and what it comes to -/
noncomputable def ans (x : Int) (ns : List Int) : List Int × Rep :=
  if x.fmod 7 < 2 then (ns ++ [x.fdiv 7], .int (ns.length + 1))
  else if x.fmod 7 = 2 then (if ns.length = 0 then (ns, .fault (.str "e1") (.str "empty")) else (ns.dropLast, .int (ns.getLastD 0)))
  else if x.fmod 7 = 3 then (if ns.length < 2 then (ns, .fault (.int 2) (.int ns.length)) else (ns.dropLast.dropLast ++ [ns.dropLast.getLastD 0 + ns.getLastD 0], .int (ns.dropLast.getLastD 0 + ns.getLastD 0)))
  else if x.fmod 7 = 4 then (if ns.length = 0 then (ns, .nil) else
    (ns.drop (((x.fdiv 7).fmod 10).fmod ns.length).toNat ++ ns.take (((x.fdiv 7).fmod 10).fmod ns.length).toNat, .two ((ns.drop (((x.fdiv 7).fmod 10).fmod ns.length).toNat ++ ns.take (((x.fdiv 7).fmod 10).fmod ns.length).toNat).getD 0 0) ((ns.drop (((x.fdiv 7).fmod 10).fmod ns.length).toNat ++ ns.take (((x.fdiv 7).fmod 10).fmod ns.length).toNat).getLastD 0)))
  else if x.fmod 7 = 5 then (if (ns.length : Int) ≤ (x.fdiv 7).fmod 6 then (ns, .fault (.int 3) (.pair ((x.fdiv 7).fmod 6) "please")) else (ns, .int (ns.getD ((x.fdiv 7).fmod 6).toNat 0)))
  else (ns, .fault (.int 4) (.str "s._no.such"))
theorem ans_fault {x : Int} {ns : List Int} (c fs : FV) (h : (ans x ns).2 = .fault c fs) : (ans x ns).1 = ns := by
  unfold ans at h ⊢
  repeat' split
  all_goals first | rfl | (simp_all; done)
theorem ans_len {x : Int} {ns : List Int} : (ans x ns).1.length ≤ ns.length + 1 := by
  unfold ans
  repeat' split
  all_goals simp
  all_goals omega
/-- the name and the things that go with the number `x` -/
inductive ArgsOf (x : Int) : Str → Array Value → Prop
  | put (h : x.fmod 7 < 2) (ta : Tok) : ArgsOf x "s.put" #[.int (x.fdiv 7) ta]
  | take (h : x.fmod 7 = 2) : ArgsOf x "s.top.take" #[]
  | add (h : x.fmod 7 = 3) : ArgsOf x "s.top.two.add" #[]
  | turn (h : x.fmod 7 = 4) (ta : Tok) : ArgsOf x "s.turn" #[.int ((x.fdiv 7).fmod 10) ta]
  | look (h : x.fmod 7 = 5) (ta tb : Tok) : ArgsOf x "s.look.at" #[.int ((x.fdiv 7).fmod 6) ta, .str "please" tb]
  | other (h : x.fmod 7 = 6) (ta : Tok) : ArgsOf x "s._no.such" #[.int ((x.fdiv 7).fmod 3) ta, .bool ((x.fdiv 7).fmod 2 == 1), .none]
section
variable {w : World} {lH tup : Addr} {tn : Tok} {x : Int} {ns : List Int}
theorem ans_put (h : x.fmod 7 < 2) : ans x ns = (ns ++ [x.fdiv 7], .int (ns.length + 1)) := by unfold ans; rw [if_pos h]
theorem ans_take0 (h : x.fmod 7 = 2) (h0 : ns.length = 0) : ans x ns = (ns, .fault (.str "e1") (.str "empty")) := by unfold ans; rw [if_neg (by omega), if_pos h, if_pos h0]
theorem ans_take (h : x.fmod 7 = 2) (h0 : ¬ ns.length = 0) : ans x ns = (ns.dropLast, .int (ns.getLastD 0)) := by unfold ans; rw [if_neg (by omega), if_pos h, if_neg h0]
theorem ans_add0 (h : x.fmod 7 = 3) (h0 : ns.length < 2) : ans x ns = (ns, .fault (.int 2) (.int ns.length)) := by unfold ans; rw [if_neg (by omega), if_neg (by omega), if_pos h, if_pos h0]
theorem ans_add (h : x.fmod 7 = 3) (h0 : ¬ ns.length < 2) : ans x ns = (ns.dropLast.dropLast ++ [ns.dropLast.getLastD 0 + ns.getLastD 0], .int (ns.dropLast.getLastD 0 + ns.getLastD 0)) := by unfold ans; rw [if_neg (by omega), if_neg (by omega), if_pos h, if_neg h0]
theorem ans_turn0 (h : x.fmod 7 = 4) (h0 : ns.length = 0) : ans x ns = (ns, .nil) := by unfold ans; rw [if_neg (by omega), if_neg (by omega), if_neg (by omega), if_pos h, if_pos h0]
theorem ans_turn (h : x.fmod 7 = 4) (h0 : ¬ ns.length = 0) : ans x ns = (ns.drop (((x.fdiv 7).fmod 10).fmod ns.length).toNat ++ ns.take (((x.fdiv 7).fmod 10).fmod ns.length).toNat, .two ((ns.drop (((x.fdiv 7).fmod 10).fmod ns.length).toNat ++ ns.take (((x.fdiv 7).fmod 10).fmod ns.length).toNat).getD 0 0) ((ns.drop (((x.fdiv 7).fmod 10).fmod ns.length).toNat ++ ns.take (((x.fdiv 7).fmod 10).fmod ns.length).toNat).getLastD 0)) := by unfold ans; rw [if_neg (by omega), if_neg (by omega), if_neg (by omega), if_pos h, if_neg h0]
theorem ans_look0 (h : x.fmod 7 = 5) (h0 : (ns.length : Int) ≤ (x.fdiv 7).fmod 6) : ans x ns = (ns, .fault (.int 3) (.pair ((x.fdiv 7).fmod 6) "please")) := by unfold ans; rw [if_neg (by omega), if_neg (by omega), if_neg (by omega), if_neg (by omega), if_pos h, if_pos h0]
theorem ans_look (h : x.fmod 7 = 5) (h0 : ¬ (ns.length : Int) ≤ (x.fdiv 7).fmod 6) : ans x ns = (ns, .int (ns.getD ((x.fdiv 7).fmod 6).toNat 0)) := by unfold ans; rw [if_neg (by omega), if_neg (by omega), if_neg (by omega), if_neg (by omega), if_pos h, if_neg h0]
theorem ans_other (h : x.fmod 7 = 6) : ans x ns = (ns, .fault (.int 4) (.str "s._no.such")) := by unfold ans; rw [if_neg (by omega), if_neg (by omega), if_neg (by omega), if_neg (by omega), if_neg (by omega)]
abbrev Serves (w : World) (lH : Addr) (x : Int) (ns : List Int) (name : Str) (its : Array Value) : Prop := ∀ tup tn, Does w lH ns (ans x ns).1 (ans x ns).2 3 [(tup, tupOf its)] (.ref 158) [.ref lH, .str name tn, .ref tup]
theorem srv_put (h : x.fmod 7 < 2) (hl : ns.length ≤ 1000) (ta : Tok) : Serves w lH x ns "s.put" #[.int (x.fdiv 7) ta] := fun tup tn => by rw [ans_put h]; exact serve_put hl
theorem srv_take (h : x.fmod 7 = 2) (hl : ns.length ≤ 1000) : Serves w lH x ns "s.top.take" #[] := fun tup tn => by
  by_cases h0 : ns.length = 0
  · rw [ans_take0 h h0]; exact serve_take0 h0 hl
  · rw [ans_take h h0]; exact serve_take (by omega) hl
theorem srv_add (h : x.fmod 7 = 3) (hl : ns.length ≤ 1000) : Serves w lH x ns "s.top.two.add" #[] := fun tup tn => by
  by_cases h0 : ns.length < 2
  · rw [ans_add0 h h0]; exact serve_add0 h0 hl
  · rw [ans_add h h0]; exact serve_add (by omega) hl
theorem srv_turn (h : x.fmod 7 = 4) (hl : ns.length ≤ 1000) (ta : Tok) : Serves w lH x ns "s.turn" #[.int ((x.fdiv 7).fmod 10) ta] := fun tup tn => by
  by_cases h0 : ns.length = 0
  · rw [ans_turn0 h h0]; exact serve_turn0 h0 hl
  · rw [ans_turn h h0]; exact serve_turn (by omega) hl
theorem srv_look (h : x.fmod 7 = 5) (hl : ns.length ≤ 1000) (ta tb : Tok) : Serves w lH x ns "s.look.at" #[.int ((x.fdiv 7).fmod 6) ta, .str "please" tb] := fun tup tn => by
  by_cases h0 : (ns.length : Int) ≤ (x.fdiv 7).fmod 6
  · rw [ans_look0 h h0]; exact serve_look0 h0 hl
  · rw [ans_look h h0]; exact serve_look (Int.fmod_nonneg_of_pos _ (by decide)) (by omega) hl
theorem srv_other (h : x.fmod 7 = 6) (hl : ns.length ≤ 1000) (its : Array Value) : Serves w lH x ns "s._no.such" its := fun tup tn => by rw [ans_other h]; exact serve_other hl
theorem srv_args {name : Str} {its : Array Value} (A : ArgsOf x name its) (hl : ns.length ≤ 1000) : Serves w lH x ns name its := by
  cases A with
  | put h ta => exact srv_put h hl ta
  | take h => exact srv_take h hl
  | add h => exact srv_add h hl
  | turn h ta => exact srv_turn h hl ta
  | look h ta tb => exact srv_look h hl ta tb
  | other h ta => exact srv_other h hl _
/-- `_law_call(m, x)` of a method whose sender serves -/
theorem call_ans {mA dA fS : Addr} {t1 t2 t3 tx : Tok} {nw : Led} {oc : Value} {od : Option Addr} {fd : FuncData} {sl : Array (Option Value)} (h1 : (mA, instObj 147 dA) ∈ nw) (h2 : (dA, methDict w t1 t2 t3 fS "s") ∈ nw) (h3 : (fS, (⟨oc, od, .func fd, sl⟩ : Obj)) ∈ nw) (hl : ns.length ≤ 1000)
    (hS : ∀ name P, (∀ its, P its → Serves w lH x ns name its) → Sends w lH ns (ans x ns).1 (ans x ns).2 5 nw fS name P) : Does w lH ns (ans x ns).1 (ans x ns).2 10 nw (.ref 165) [.ref mA, .int x tx] := by
  have h0 := Int.fmod_nonneg_of_pos x (show (0 : Int) < 7 by decide)
  have h7 := Int.fmod_lt_of_pos x (show (0 : Int) < 7 by decide)
  by_cases c2 : x.fmod 7 < 2
  · exact call_put c2 h1 h2 h3 (hS _ _ fun its hi => by obtain ⟨ta, rfl⟩ := hi; exact srv_put c2 hl ta)
  by_cases c3 : x.fmod 7 = 2
  · exact call_take c3 h1 h2 h3 (hS _ _ fun its hi => by subst hi; exact srv_take c3 hl)
  by_cases c4 : x.fmod 7 = 3
  · exact call_add c4 h1 h2 h3 (hS _ _ fun its hi => by subst hi; exact srv_add c4 hl)
  by_cases c5 : x.fmod 7 = 4
  · exact call_turn c5 h1 h2 h3 (hS _ _ fun its hi => by obtain ⟨ta, rfl⟩ := hi; exact srv_turn c5 hl ta)
  by_cases c6 : x.fmod 7 = 5
  · exact call_look c6 h1 h2 h3 (hS _ _ fun its hi => by obtain ⟨ta, tb, rfl⟩ := hi; exact srv_look c6 hl ta tb)
  exact call_other (by omega) h1 h2 h3 (hS _ _ fun its hi => srv_other (by omega) hl its)
/-- `_law_call(p, x)` of a multicall's method -/
def NotesAny (w : World) (lC : Addr) (x : Int) (nw : Led) (f : Value) (args : List Value) : Prop := ∃ name P, (∀ its, P its → ArgsOf x name its) ∧ Notes w lC name P 10 nw f args
theorem note_any {lC mA dA : Addr} {t1 t2 t3 tx : Tok} {nw : Led} (h1 : (mA, instObj 84 dA) ∈ nw) (h2 : (dA, multDict w t1 t2 t3 lC "s") ∈ nw) : NotesAny w lC x nw (.ref 165) [.ref mA, .int x tx] := by
  have h0 := Int.fmod_nonneg_of_pos x (show (0 : Int) < 7 by decide)
  have h7 := Int.fmod_lt_of_pos x (show (0 : Int) < 7 by decide)
  by_cases c2 : x.fmod 7 < 2
  · exact ⟨_, _, fun its hi => by obtain ⟨ta, rfl⟩ := hi; exact .put c2 ta, note_put c2 h1 h2⟩
  by_cases c3 : x.fmod 7 = 2
  · exact ⟨_, _, fun its hi => by subst hi; exact .take c3, note_take c3 h1 h2⟩
  by_cases c4 : x.fmod 7 = 3
  · exact ⟨_, _, fun its hi => by subst hi; exact .add c4, note_add c4 h1 h2⟩
  by_cases c5 : x.fmod 7 = 4
  · exact ⟨_, _, fun its hi => by obtain ⟨ta, rfl⟩ := hi; exact .turn c5 ta, note_turn c5 h1 h2⟩
  by_cases c6 : x.fmod 7 = 5
  · exact ⟨_, _, fun its hi => by obtain ⟨ta, tb, rfl⟩ := hi; exact .look c6 ta tb, note_look c6 h1 h2⟩
  exact ⟨_, _, fun its hi => by obtain ⟨ta, rfl⟩ := hi; exact .other (by omega) ta, note_other (by omega) h1 h2⟩
end
end Mine
end
section
open PySem PySem.W PyProof.Rows PySem.Calls PySem.SeqAt
set_option Elab.async false
set_option maxRecDepth 100000
set_option maxHeartbeats 8000000
namespace Mine
theorem compEnd_mono {h₀ : Heap} {L I C D : Addr} {m : Str → Option Value} {s₁ s₂ : Shared} {oI oC oD : Obj} {S : List (Addr × Obj) → Prop} {r r' : Value → List (Addr × Obj) → Prop} {y : Value} (hr : ∀ y n, r y n → r' y n)
    (h : LCg.CompEnd h₀ L m s₁ I oI C oC D oD S r y s₂) : LCg.CompEnd h₀ L m s₁ I oI C oC D oD S r' y s₂ := by
  obtain ⟨h', tk, nw, e, F, N, o, hS, hh⟩ := h
  exact ⟨h', tk, nw, e, F, N, o, hS, hr _ _ hh⟩
/-- a list comprehension by an invariant of the turns -/
theorem comp_rest {prog : Program} {w : World} {A : Around} {h₀ : Heap} {L : Addr} {m : Str → Option Value} {env : Env} {elt : PySem.Expr} {x : Str} {scope : Scope} {cl : List (Str × Addr)} {s : Shared} {S : List (Addr × Obj) → Prop} {P : Nat → Value → Prop}
    {Fin : List Value → List (Addr × Obj) → Prop} (n : Nat) (Inv : Nat → List Value → List (Addr × Obj) → Prop) (fin : ∀ ys news, Inv n ys news → Fin ys news)
    (turn : ∀ (s' : Shared) i ys news v I oI C oC D m₂ h tk (E' : Value → Shared → Prop), i < n → Inv i ys news → P i v → LCg.NsObj oC m₂ → m₂ x = some v → Fr h₀ L h m → News h₀ L h ((I, oI) :: (C, oC) :: (D, LCg.lst ys) :: news) → LCg.Off3 I C D news → ((@Ne Nat I C) ∧ (@Ne Nat I D) ∧ (@Ne Nat C D)) →
      wpAny (model prog w) A (eval elt (compEnvC scope cl C env)) (LCg.CompEnd h₀ L m { s' with heap := h, toks := tk } I oI C oC D (LCg.lst ys) S (fun y news' => Inv (i + 1) (ys ++ [y]) news')) E' { s' with heap := h, toks := tk }) :
    ∀ (k i : Nat) (ys : List Value) (news : List (Addr × Obj)), i + k = n → Inv i ys news → LCg.CompRest prog w A h₀ L m env elt x scope cl s S P Fin k i ys news
  | 0, i, ys, news, e, hI => .zero (fin ys news (by have : i = n := by omega
                                                    exact this ▸ hI))
  | k + 1, i, ys, news, e, hI => .succ fun v I oI C oC D m₂ h tk E' a b c d e' f g =>
      wpAny_mono (turn s i ys news v I oI C oC D m₂ h tk E' (by omega) hI a b c d e' f g) (fun y s₂ z => compEnd_mono (fun y nn hy => comp_rest n Inv fin turn k (i + 1) _ _ (by omega) hy) z) fun _ _ z => z
theorem len_any {prog : Program} {w : World} {A : Around} {E : Value → Shared → Prop} {h₀ h : Heap} {L : Addr} {g d os} {tk : Nat} {news : List (Addr × Obj)} {l : Addr} {vs : Array Value} {n : Nat} {Q : Value → Shared → Prop} (N : News h₀ L h news) (hm : (l, listOf vs n) ∈ news) (hs : vs.size ≤ 1000) (post : Q (.int vs.size (tk + 1)) ⟨h, g, d, tk + 1 + 1, os⟩) :
    wpAny (model prog w) A (call (.builtin "len") [.ref l]) Q E ⟨h, g, d, tk, os⟩ := call_len_list (N.isList hm) (by omega) post
section
variable {h₀ : Heap} {L I : Addr} {s₁ : Shared} {it : Obj} {r r' : (Str → Option Value) → List (Addr × Obj) → Prop}
theorem unrEnd_mono {s₂ : Shared} (hr : ∀ m n, (∀ p ∈ n, p.1 ≠ I) → r m n → r' m n) (h : UnrEnd h₀ L s₁ I it r s₂) : UnrEnd h₀ L s₁ I it r' s₂ := by
  obtain ⟨h', tk, m', nw, e, F, N, o, hh⟩ := h
  exact ⟨h', tk, m', nw, e, F, N, o, hr _ _ o hh⟩
theorem unrPost_mono {Q : Flow → Shared → Prop} {f : Flow} {s₂ : Shared} (hr : ∀ m n, (∀ p ∈ n, p.1 ≠ I) → r m n → r' m n) (h : UnrPost h₀ L s₁ I it r Q f s₂) : UnrPost h₀ L s₁ I it r' Q f s₂ := by
  cases f with
  | ret v => exact h
  | brk => exact h
  | next => exact unrEnd_mono hr h
  | cont => exact unrEnd_mono hr h
end
/-- a loop over a range by an invariant -/
theorem range_rest {prog : Program} {w : World} {A : Around} {E : Value → Shared → Prop} {h₀ : Heap} {env : Env} {x : Str} {body : List Stmt} {Q : Flow → Shared → Prop} {s : Shared} {I : Addr} {a : Int} (n : Nat) (Inv : Nat → (Str → Option Value) → List (Addr × Obj) → Prop)
    (fin : ∀ m news h tk, Inv n m news → Fr h₀ env.locals h m → News h₀ env.locals h news → Q .next { s with heap := h, toks := tk })
    (turn : ∀ (Q' : Flow → Shared → Prop) (s' : Shared) i m news t h tk, i < n → Inv i m news → (∀ p ∈ news, p.1 ≠ I) → Fr h₀ env.locals h (fun y => if y = x then some (.int (a + (i : Int)) t) else m y) → News h₀ env.locals h ((I, itR (a + ((i + 1 : Nat) : Int)) ((n : Int) - ((i + 1 : Nat) : Int))) :: news) →
      wpAny (model prog w) A (execs body env) (UnrPost h₀ env.locals { s' with heap := h, toks := tk } I (itR (a + ((i + 1 : Nat) : Int)) ((n : Int) - ((i + 1 : Nat) : Int))) (fun m' n' => Inv (i + 1) m' n') Q') E { s' with heap := h, toks := tk }) :
    ∀ (k i : Nat) (m : Str → Option Value) (news : List (Addr × Obj)), i + k = n → Inv i m news → (∀ p ∈ news, p.1 ≠ I) → RangeRest prog w A E h₀ env x body Q s I a n k i m news
  | 0, i, m, news, e, hI, _ => RangeRest.zero fun h tk F N => fin m news h tk ((show i = n by omega) ▸ hI) F N
  | k + 1, i, m, news, e, hI, ho => RangeRest.succ fun t h tk F N =>
      wpAny_mono (turn Q s i m news t h tk (by omega) hI ho F N) (fun f s₂ z => unrPost_mono (fun m' n' o hh => range_rest n Inv fin turn k (i + 1) m' n' (by omega) hh o) z) fun _ _ z => z
theorem small_len {n : Nat} (h : n ≤ 1000) : Builtin.Range.small 0 (n : Int) 1 = true := small_one (by decide) (by decide) (by omega) (by omega)
theorem size_len (n : Nat) : Builtin.Range.rangeSize 0 (n : Int) 1 = (n : Int) := by
  unfold Builtin.Range.rangeSize
  simp
  omega
theorem at_front {ys : List Value} {p : Nat} {y : Value} (h : ys[p]? = some y) (hl : ys.length ≤ 1000) : At ys.toArray (0 + (p : Int)) y := by
  have := (List.getElem?_eq_some_iff.mp h).1
  refine .inl ⟨by omega, by omega, ?_⟩
  rw [show (0 + (p : Int)).toNat = p by omega]; simpa using h
theorem at_back {ys : List Value} {p : Nat} {y : Value} (h : ys[p]? = some y) (hl : ys.length ≤ 1000) : At ys.toArray (0 + (p : Int) - (ys.toArray.size : Int)) y := by
  have := (List.getElem?_eq_some_iff.mp h).1
  simp only [List.size_toArray]
  refine .inr ⟨by omega, by omega, by simp only [List.size_toArray]; omega, ?_⟩
  rw [show (0 + (p : Int) - (ys.length : Int) + (ys.toArray.size : Int)).toNat = p by simp only [List.size_toArray]; omega]; simpa using h
theorem turn_fr {h₀ h₁ h : Heap} {L : Addr} {m : Str → Option Value} (T : KtsTurn [] h₀ h₁) (F : Fr h₁ L h m) : Fr h₀ L h m := ⟨F.ns, fun b o e => F.keep b o (T.other b o e (fun z => nomatch z)), by rw [← T.size]; exact F.above⟩
theorem turn_news {h₀ h₁ h : Heap} {L : Addr} {l : Led} (T : KtsTurn [] h₀ h₁) (N : News h₁ L h l) : News h₀ L h l := fun q hq => ⟨(N q hq).1, (N q hq).2.1, by
  cases e : h₀.get? q.1 with
  | none => rfl
  | some o =>
    have := T.other _ _ e (fun z => nomatch z)
    rw [(N q hq).2.2] at this
    exact nomatch this⟩
theorem preS_of {h₀ h : Heap} {L : Addr} {full : Led} {lH P : Addr} {vs : List Value} {n : Nat} {ps : Array Value} {pos : Pos} {qual : Str} {ns : List Int} {nw : Led} (N : News h₀ L h full) (hH : (lH, listOf vs.toArray n) ∈ full) (hP : (P, tabObj ps) ∈ full) (hI : IntsAre vs ns) {nt : Led} (hT : TabS pos qual nt ps) (hnt : ∀ q ∈ nt, q ∈ full)
    (hs : ∀ q ∈ nw, q ∈ full) (hn : ∀ q ∈ nw, q.1 ≠ lH ∧ q.1 ≠ P) : ∃ nw', News h₀ L h nw' ∧ PreS pos qual P lH ns nw (drop1 P (drop1 lH nt)) nw' ∧ (∀ q ∈ full, q ∈ nw') := by
  have ne : lH ≠ P := ne_obj N hH hP (by simp)
  have hT' : TabS pos qual (drop1 P (drop1 lH nt)) ps := by
    cases hT with
    | empty e => exact .empty e
    | full c' oc vs' t e hm hd hv =>
      refine .full c' oc vs' t e (drop1_mem.mpr ⟨drop1_mem.mpr ⟨hm, fun z => ?_⟩, fun z => ?_⟩) hd hv
      · have e1 := (N _ (hnt _ hm)).1; have e2 := (N _ hH).1; dsimp only at z e1 e2; rw [z, e2] at e1; cases Option.some.inj e1; cases hd
      · have e1 := (N _ (hnt _ hm)).1; have e2 := (N _ hP).1; dsimp only at z e1 e2; rw [z, e2] at e1
        cases Option.some.inj e1
        subst e
        cases hd
        simp [rawInt] at hv
  refine ⟨(lH, listOf vs.toArray n) :: (P, tabObj ps) :: drop1 P (drop1 lH full), ?_, ⟨vs, n, ps, _, rfl, fun q hq => (drop1_mem.mp (drop1_mem.mp hq).1).2, fun q hq => (drop1_mem.mp hq).2, ne, hI, hT', fun q hq => (by have := drop1_mem.mp hq; have h2 := drop1_mem.mp this.1; exact drop1_mem.mpr ⟨drop1_mem.mpr ⟨hnt _ h2.1, h2.2⟩, this.2⟩), fun q hq => drop1_mem.mpr ⟨drop1_mem.mpr ⟨hs q hq, (hn q hq).1⟩, (hn q hq).2⟩⟩, fun q hq => ?_⟩
  · refine news_sub N fun q hq => ?_
    rcases List.mem_cons.mp hq with rfl | hq
    · exact hH
    · rcases List.mem_cons.mp hq with rfl | hq
      · exact hP
      · exact (drop1_mem.mp (drop1_mem.mp hq).1).1
  · by_cases e : q.1 = lH
    · have e1 := (N _ hq).1; have e2 := (N _ hH).1; dsimp only at e2; rw [e, e2] at e1
      obtain ⟨a, o⟩ := q
      cases Option.some.inj e1
      dsimp only at e
      subst e
      exact .head _
    · by_cases e' : q.1 = P
      · have e1 := (N _ hq).1; have e2 := (N _ hP).1; dsimp only at e2; rw [e', e2] at e1
        obtain ⟨a, o⟩ := q
        cases Option.some.inj e1
        dsimp only at e'
        subst e'
        exact .tail _ (.head _)
      · exact .tail _ (.tail _ (drop1_mem.mpr ⟨drop1_mem.mpr ⟨hq, e⟩, e'⟩))
/-- three that are laid aside -/
theorem off3_drop {I C D : Addr} {l : Led} : LCg.Off3 I C D (drop1 I (drop1 C (drop1 D l))) := LCg.Off3.of fun p hp => by
  have h1 := drop1_mem.mp hp
  have h2 := drop1_mem.mp h1.1
  have h3 := drop1_mem.mp h2.1
  exact ⟨h1.2, h2.2, h3.2⟩
theorem drop3_mem {I C D : Addr} {l : Led} {q : Addr × Obj} : q ∈ drop1 I (drop1 C (drop1 D l)) ↔ q ∈ l ∧ q.1 ≠ I ∧ q.1 ≠ C ∧ q.1 ≠ D := by
  rw [drop1_mem, drop1_mem, drop1_mem]
  constructor
  · rintro ⟨⟨⟨a, b⟩, c⟩, d⟩; exact ⟨a, d, c, b⟩
  · rintro ⟨a, d, c, b⟩; exact ⟨⟨⟨a, b⟩, c⟩, d⟩
theorem ints_at {vs : List Value} {ns : List Int} (h : IntsAre vs ns) {i : Nat} {v : Value} (e : vs.toArray[i]? = some v) : ∃ x t, ns[i]? = some x ∧ v = .int x t := by
  have e' : vs[i]? = some v := by simpa using e
  have hl : i < ns.length := by
    have := (List.getElem?_eq_some_iff.mp e').1
    have := h.length; omega
  obtain ⟨t, ht⟩ := h.get i ns[i] (by simp [hl])
  exact ⟨ns[i], t, by simp [hl], Option.some.inj (e'.symm.trans ht)⟩
theorem open13 {h₀ h : Heap} {L : Addr} {a1 a2 a3 a4 a5 a6 a7 a8 a9 b1 b2 b3 b4 : Addr × Obj} (N : News h₀ L h [a1, a2, a3, a4, a5, a6, a7, a8, a9, b1, b2, b3, b4]) :
    ∃ nw, News h₀ L h nw ∧ a1 ∈ nw ∧ a2 ∈ nw ∧ a3 ∈ nw ∧ a4 ∈ nw ∧ a5 ∈ nw ∧ a6 ∈ nw ∧ a8 ∈ nw ∧ a9 ∈ nw ∧ b1 ∈ nw ∧ b2 ∈ nw ∧ b3 ∈ nw ∧ b4 ∈ nw := ⟨_, N, by simp, by simp, by simp, by simp, by simp, by simp, by simp, by simp, by simp, by simp, by simp, by simp⟩
/-- the server's heap after the first `i` of the numbers -/
noncomputable def heapAt (xs : List Int) (i : Nat) : List Int := (xs.take i).foldl (fun ns x => (ans x ns).1) []
noncomputable def repAt (xs : List Int) (i : Nat) : Rep := (ans (xs.getD i 0) (heapAt xs i)).2
theorem heapAt_succ {xs : List Int} {i : Nat} {x : Int} (e : xs[i]? = some x) : heapAt xs (i + 1) = (ans x (heapAt xs i)).1 := by
  obtain ⟨h, hx⟩ := List.getElem?_eq_some_iff.mp e
  unfold heapAt
  rw [List.take_succ_eq_append_getElem h, List.foldl_append, hx]
  rfl
theorem repAt_eq {xs : List Int} {i : Nat} {x : Int} (e : xs[i]? = some x) : repAt xs i = (ans x (heapAt xs i)).2 := by
  unfold repAt
  rw [List.getD_eq_getElem?_getD, e]
  rfl
theorem heapAt_len {xs : List Int} : ∀ i, (heapAt xs i).length ≤ i
  | 0 => by simp [heapAt]
  | i + 1 => by
    cases e : xs[i]? with
    | some x =>
      rw [heapAt_succ e]
      have := heapAt_len (xs := xs) i
      have := ans_len (x := x) (ns := heapAt xs i)
      omega
    | none =>
      have h : xs.length ≤ i := by simpa using e
      have : heapAt xs (i + 1) = heapAt xs i := by unfold heapAt; rw [List.take_of_length_le h, List.take_of_length_le (by omega)]
      rw [this]
      have := heapAt_len (xs := xs) i
      omega
theorem Res.mono {w : World} {nx nx2 : Led} {O : Rep} {v : Value} (h : Res w nx O v) (s : ∀ q ∈ nx, q ∈ nx2) : Res w nx2 O v := by
  cases h with
  | val v l h hl => exact .val v l (h.mono s) (s _ hl)
  | fault c s' d o h1 h2 hd ho hm => exact .fault c s' d o (h1.mono s) (h2.mono s) hd ho (s _ hm)
/-- the first comprehension: the answers so far, the heap, the table of `_law_single` -/
def SInv (w : World) (lH : Addr) (xs : List Int) (keep : Led) (i : Nat) (ys : List Value) (news : Led) : Prop :=
  (∃ vs n, (lH, listOf vs.toArray n) ∈ news ∧ IntsAre vs (heapAt xs i)) ∧ (∃ ps, (181, tabObj ps) ∈ news ∧ TabS pos1 qual1 news ps) ∧ (∀ q ∈ keep, q ∈ news) ∧ ys.length = i ∧ ∀ (j : Nat) (y : Value), ys[j]? = some y → ∃ R, (∀ q ∈ R, q ∈ news ∧ q.1 ≠ lH ∧ q.1 ≠ 181) ∧ Res w R (repAt xs j) y
/-- what does not change: neither the heap nor a table -/
def Still4 (lH : Addr) (l nw : Led) : Prop := ∀ q ∈ nw, q ∈ l ∧ q.1 ≠ lH ∧ q.1 ≠ 181 ∧ q.1 ≠ 188 ∧ q.1 ≠ 195
theorem still4_of {h₀ h : Heap} {L lH : Addr} {l : Led} (N : News h₀ L h l) (mH : (lH, listOf #[] 0) ∈ l) (m1 : (181, tabObj #[]) ∈ l) (m2 : (188, tabObj #[]) ∈ l) (m3 : (195, tabObj #[]) ∈ l) {a : Addr} {o : Obj} {nw : Led} (hm : (a, o) ∈ l) (d1 : o.data ≠ .seq #[] 0) (d2 : o.data ≠ .fields #[]) (t : Still4 lH l nw) : Still4 lH l ((a, o) :: nw) := fun q hq => by
  rcases List.mem_cons.mp hq with rfl | hq
  · exact ⟨hm, ne_data N hm mH d1, ne_data N hm m1 d2, ne_data N hm m2 d2, ne_data N hm m3 d2⟩
  · exact t q hq
theorem still4_nil {lH : Addr} {l : Led} : Still4 lH l [] := fun _ h => nomatch h
/-- the start of the law: the method over the first heap -/
structure Start (w : World) (nw9 : Led) (ws : List Value) (mA lH D : Addr) (nwS : Led) : Prop where
  h : (lH, listOf #[] 0) ∈ nw9
  D : (D, listOf ws.toArray 0) ∈ nw9
  t1 : (181, tabObj #[]) ∈ nw9
  t2 : (188, tabObj #[]) ∈ nw9
  t3 : (195, tabObj #[]) ∈ nw9
  st : Still4 lH nw9 nwS
  call : ∀ (x : Int) (tx : Tok) (ns : List Int), ns.length ≤ 1000 → Does w lH ns (ans x ns).1 (ans x ns).2 10 nwS (.ref 165) [.ref mA, .int x tx]
theorem start_of {w : World} {nw9 : Led} {ws : List Value} {mA lH D : Addr} {nwS : Led} (h : (lH, listOf #[] 0) ∈ nw9) (hD : (D, listOf ws.toArray 0) ∈ nw9) (t1 : (181, tabObj #[]) ∈ nw9) (t2 : (188, tabObj #[]) ∈ nw9) (t3 : (195, tabObj #[]) ∈ nw9) (st : Still4 lH nw9 nwS)
    (call : ∀ (x : Int) (tx : Tok) (ns : List Int), ns.length ≤ 1000 → Does w lH ns (ans x ns).1 (ans x ns).2 10 nwS (.ref 165) [.ref mA, .int x tx]) : ∃ nwS, Start w nw9 ws mA lH D nwS := ⟨nwS, h, hD, t1, t2, t3, st, call⟩
/-- one turn of the first comprehension -/
theorem single_use {w : World} {nw9 : Led} {ws : List Value} {mA lH D : Addr} {nwS : Led} (S : Start w nw9 ws mA lH D nwS) {xs : List Int} {i : Nat} {x : Int} {tx : Tok} {nt : Led} (hx : xs[i]? = some x) (hl : xs.length ≤ 67) :
    Taken w 42 (PreS pos1 qual1 181 lH (heapAt xs i) nwS nt) (OutS w pos1 qual1 181 lH (heapAt xs (i + 1)) (repAt xs i) nt) (.ref 186) [.ref mA, .int x tx] := by
  have hi : i < xs.length := (List.getElem?_eq_some_iff.mp hx).1
  have h1 := heapAt_len (xs := xs) i
  have hd := S.call x tx (heapAt xs i) (by omega)
  rw [← heapAt_succ hx, ← repAt_eq hx] at hd
  refine single (fun c fs e => ?_) hd
  rw [repAt_eq hx] at e
  rw [heapAt_succ hx]
  exact ans_fault c fs e
/-- the ledger between two turns of the first comprehension -/
theorem sinv_start {w : World} {nw9 : Led} {ws : List Value} {mA lH D : Addr} {nwS : Led} {xs : List Int} (S : Start w nw9 ws mA lH D nwS) : SInv w lH xs (drop1 181 (drop1 lH nw9)) 0 [] nw9 :=
  ⟨⟨[], 0, S.h, .nil⟩, ⟨#[], S.t1, .empty rfl⟩, fun q hq => (drop1_mem.mp (drop1_mem.mp hq).1).1, rfl, fun j y e => nomatch (show (none : Option Value) = some y from by simpa using e)⟩
theorem sinv_step {w : World} {lH : Addr} {xs : List Int} {keep nx : Led} {i : Nat} {ys : List Value} {news : Led} {v : Value} {I C D : Addr} {oI oC oD : Obj} {nw' : Led} (hI : SInv w lH xs keep i ys news) (off : LCg.Off3 I C D news) (hk : ∀ q ∈ keep, q.1 ≠ lH ∧ q.1 ≠ 181)
    (hs : ∀ q ∈ (I, oI) :: (C, oC) :: (D, oD) :: news, q ∈ nw') (R : OutS w pos1 qual1 181 lH (heapAt xs (i + 1)) (repAt xs i) (drop1 181 (drop1 lH news)) nw' v nx) :
    (∀ q ∈ (I, oI) :: (C, oC) :: (D, oD) :: drop1 I (drop1 C (drop1 D nx)), q ∈ nx) ∧ SInv w lH xs keep (i + 1) (ys ++ [v]) (drop1 I (drop1 C (drop1 D nx))) := by
  obtain ⟨⟨vs0, n0, m0, hI0⟩, ⟨ps0, p0, hT0⟩, k0, hl, hr⟩ := hI
  obtain ⟨vs, n, ps, mh, hi, mp, hT, keepR, R2, R2s, R2a, res⟩ := R
  have oH := off.mem _ m0
  have oP := off.mem _ p0
  dsimp only at oH oP
  have up : ∀ q ∈ news, q.1 ≠ lH → q.1 ≠ 181 → q ∈ drop1 I (drop1 C (drop1 D nx)) := fun q hq a b => drop3_mem.mpr ⟨keepR q (hs q (.tail _ (.tail _ (.tail _ hq)))) a b, off.mem q hq⟩
  have mI := hs _ (.head _)
  have mC := hs _ (.tail _ (.head _))
  have mD := hs _ (.tail _ (.tail _ (.head _)))
  have mH := hs _ (.tail _ (.tail _ (.tail _ m0)))
  have mP := hs _ (.tail _ (.tail _ (.tail _ p0)))
  refine ⟨fun q hq => ?_, ⟨vs, n, drop3_mem.mpr ⟨mh, oH⟩, hi⟩, ⟨ps, drop3_mem.mpr ⟨mp, oP⟩, ?_⟩, fun q hq => up q (k0 q hq) (hk q hq).1 (hk q hq).2, by simp [hl], fun j y e => ?_⟩
  · rcases List.mem_cons.mp hq with rfl | hq
    · exact keepR _ mI (Ne.symm oH.1) (Ne.symm oP.1)
    · rcases List.mem_cons.mp hq with rfl | hq
      · exact keepR _ mC (Ne.symm oH.2.1) (Ne.symm oP.2.1)
      · rcases List.mem_cons.mp hq with rfl | hq
        · exact keepR _ mD (Ne.symm oH.2.2) (Ne.symm oP.2.2)
        · exact (drop3_mem.mp hq).1
  · obtain ⟨nt2, h2, h3⟩ := hT
    refine tabMono h2 fun q hq => drop3_mem.mpr ⟨(h3 q hq).1, ?_⟩
    rcases (h3 q hq).2 with z | z
    · exact off.mem q (drop1_mem.mp (drop1_mem.mp z).1).1
    · exact ⟨Nat.ne_of_gt (z _ mI), Nat.ne_of_gt (z _ mC), Nat.ne_of_gt (z _ mD)⟩
  · by_cases hj : j < ys.length
    · rw [List.getElem?_append_left hj] at e
      obtain ⟨R0, h0, r0⟩ := hr j y e
      exact ⟨R0, fun q hq => ⟨up q (h0 q hq).1 (h0 q hq).2.1 (h0 q hq).2.2, (h0 q hq).2⟩, r0⟩
    · have hj' : j = ys.length := by
        have := (List.getElem?_eq_some_iff.mp e).1
        simp at this; omega
      subst hj'
      have : y = v := by simpa using e.symm
      rw [this, hl]
      exact ⟨R2, fun q hq => ⟨drop3_mem.mpr ⟨R2s q hq, Nat.ne_of_gt (R2a q hq _ mI), Nat.ne_of_gt (R2a q hq _ mC), Nat.ne_of_gt (R2a q hq _ mD)⟩, Nat.ne_of_gt (R2a q hq _ mH), Nat.ne_of_gt (R2a q hq _ mP)⟩, res⟩
end Mine
end
section
open PySem PySem.W PyProof.Rows PySem.Calls PySem.SeqAt PySem.MeetsSeq PySem.MeetsSeq3
set_option Elab.async false
set_option maxRecDepth 100000
set_option maxHeartbeats 8000000
namespace Mine
section
variable {A : Around} {s : Shared}
theorem at_str (a : Str) (t u : Tok) : EqAt A s (.str a t) (.str a u) true := by have := EqAt.str_str (A := A) (s := s) a t a u; rwa [beq_self_eq_true] at this
theorem at_int (a : Int) (t u : Tok) : EqAt A s (.int a t) (.int a u) true := by have := EqAt.int_int (A := A) (s := s) a t a u; rwa [beq_self_eq_true] at this
theorem all_yes (n : Nat) : ((List.range n).all fun _ => true) = true := by simp
/-- two lists that are equal at each place -/
theorem at_list {l b : Addr} {items items2 : Array Value} (hl : s.heap.IsList l items) (hb : s.heap.IsList b items2) (hsz : items.size = items2.size) (hu : A.units < cLine)
    (he : ∀ j (h1 : j < items.size) (h2 : j < items2.size), EqAt A.in1 s items[j] items2[j] true) : EqAt A s (.ref l) (.ref b) true := fun prog w E Q hq => by
  by_cases hne : l = b
  · subst hne; exact EqAt.same _ prog w E Q hq
  · have h := RcAt.lists (e := fun _ => true) hl hb hsz hu he
    rw [all_yes] at h
    exact EqAt.of_refs hne h prog w E Q hq
theorem at_tuple {l b : Addr} {items items2 : Array Value} (hl : s.heap.IsTuple l items) (hb : s.heap.IsTuple b items2) (hsz : items.size = items2.size) (hu : A.units < cLine)
    (he : ∀ j (h1 : j < items.size) (h2 : j < items2.size), EqAt A.in1 s items[j] items2[j] true) : EqAt A s (.ref l) (.ref b) true := fun prog w E Q hq => by
  by_cases hne : l = b
  · subst hne; exact EqAt.same _ prog w E Q hq
  · have h := RcAt.tuples (e := fun _ => true) hl hb hu he
    rw [all_yes, hsz, beq_self_eq_true] at h
    exact EqAt.of_refs hne h prog w E Q hq
theorem eq_lists {l b : Addr} {items items2 : Array Value} (hl : s.heap.IsList l items) (hb : s.heap.IsList b items2) (hsz : items.size = items2.size) (hu : A.units < cLine)
    (he : ∀ j (h1 : j < items.size) (h2 : j < items2.size), EqAt A.in1 s items[j] items2[j] true) : RcAt A s (.ref l) (.ref b) true := by
  have h := RcAt.lists (e := fun _ => true) hl hb hsz hu he
  rwa [all_yes] at h
theorem ne_lists {l b : Addr} {items items2 : Array Value} (hl : s.heap.IsList l items) (hb : s.heap.IsList b items2) (hsz : items.size = items2.size) (hu : A.units < cLine)
    (he : ∀ j (h1 : j < items.size) (h2 : j < items2.size), EqAt A.in1 s items[j] items2[j] true) : RcNeAt A s (.ref l) (.ref b) false := by
  have h := RcNeAt.lists (e := fun _ => true) hl hb hsz hu he
  rwa [all_yes] at h
theorem ne_tuples {l b : Addr} {items items2 : Array Value} (hl : s.heap.IsTuple l items) (hb : s.heap.IsTuple b items2) (hsz : items.size = items2.size) (hu : A.units < cLine)
    (he : ∀ j (h1 : j < items.size) (h2 : j < items2.size), EqAt A.in1 s items[j] items2[j] true) : RcNeAt A s (.ref l) (.ref b) false := by
  have h := RcNeAt.tuples (e := fun _ => true) hl hb hu he
  rwa [all_yes, hsz, beq_self_eq_true] at h
theorem one_eq {v v' : Value} (e : EqAt A s v v' true) : ∀ j (h1 : j < #[v].size) (h2 : j < #[v'].size), EqAt A s #[v][j] #[v'][j] true := fun j h1 h2 => by
  obtain rfl : j = 0 := by simpa using h1
  exact e
theorem two_eq {v v' u u' : Value} (e : EqAt A s v v' true) (f : EqAt A s u u' true) : ∀ j (h1 : j < #[v, u].size) (h2 : j < #[v', u'].size), EqAt A s #[v, u][j] #[v', u'][j] true := fun j h1 h2 => by
  obtain rfl | rfl : j = 0 ∨ j = 1 := by simp at h1; omega
  · exact e
  · exact f
theorem three_eq {v v' u u' x x' : Value} (e : EqAt A s v v' true) (f : EqAt A s u u' true) (g : EqAt A s x x' true) : ∀ j (h1 : j < #[v, u, x].size) (h2 : j < #[v', u', x'].size), EqAt A s #[v, u, x][j] #[v', u', x'][j] true := fun j h1 h2 => by
  obtain rfl | rfl | rfl : j = 0 ∨ j = 1 ∨ j = 2 := by simp at h1; omega
  · exact e
  · exact f
  · exact g
end
section
variable {w : World} {nw : Led} {h₀ : Heap} {L : Addr} {s : Shared} {A : Around}
theorem lst_of {a : Addr} {its : Array Value} {n : Nat} (N : News h₀ L s.heap nw) (h : (a, listOf its n) ∈ nw) : s.heap.IsList a its := ⟨_, (N _ h).1, rfl, _, rfl⟩
theorem tup_of {a : Addr} {its : Array Value} (N : News h₀ L s.heap nw) (h : (a, tupOf its) ∈ nw) : s.heap.IsTuple a its := ⟨_, (N _ h).1, rfl, _, rfl⟩
theorem dct_of {prog : Program} {a : Addr} {o : Obj} {kvs : List (Str × Value)} (N : News h₀ L s.heap nw) (h : (a, o) ∈ nw) (d : o.IsDictOf (strKind prog w) kvs) : s.heap.DictOf (strKind prog w) a kvs := Heap.dictOf_iff.mpr ⟨o, (N _ h).1, d⟩
theorem hit1 {kb : List (Str × Value)} {k : Str} {v y : Value} {r : List (Str × Value)} {b : Bool} (h : valueAt kb k = some y) (e : EqAt A s v y true) (g : KeqHits A s kb r b) : KeqHits A s kb ((k, v) :: r) b := by
  have := KeqHits.hit h e g
  rwa [Bool.true_and] at this
theorem vis_eq {O : Rep} {v v' : Value} (N : News h₀ L s.heap nw) (V : VIs nw O v) (V' : VIs nw O v') (hu : A.units < cLine) : EqAt A s v v' true := by
  cases V with
  | int n t => cases V' with
    | int n' t' => exact at_int _ _ _
  | nil l c h => cases V' with
    | nil l' c' h' => exact at_list (lst_of N h) (lst_of N h') rfl hu (fun j h1 _ => absurd h1 (Nat.not_lt_zero _))
  | two a b t t' l c h => cases V' with
    | two a' b' u u' l' c' h' => exact at_list (lst_of N h) (lst_of N h') rfl hu (two_eq (at_int _ _ _) (at_int _ _ _))
theorem fis_eq {f : FV} {v v' : Value} (N : News h₀ L s.heap nw) (V : FIs nw f v) (V' : FIs nw f v') (hu : A.units < cLine) : EqAt A s v v' true := by
  cases V with
  | int n t => cases V' with
    | int n' t' => exact at_int _ _ _
  | str x t => cases V' with
    | str x' t' => exact at_str _ _ _
  | pair n x t t' l c h => cases V' with
    | pair n' x' u u' l' c' h' => exact at_list (lst_of N h) (lst_of N h') rfl hu (two_eq (at_int _ _ _) (at_str _ _ _))
/-- `y != x` gives False -/
def RnW (w : World) (A : Around) (s : Shared) (y x : Value) : Prop := ∀ (E : Value → Shared → Prop) (Q : Value → Shared → Prop), Q (.bool false) s → wpAny (model PySem.Challenge.rw_kn0109_04.row.prog w) A (richCompare .NotEq y x) Q E s
theorem RnW.of {y x : Value} (h : RcNeAt A s y x false) : RnW w A s y x := fun E Q hq => h _ _ E Q hq
theorem res_val {O : Rep} {v1 y y' : Value} (N : News h₀ L s.heap nw) (R : ResR w nw (fun x => x = v1) (fun _ => False) y) (h1 : VIs nw O v1) (S : Res w nw O y') (hu : A.units + 2 < cLine) : RnW w A s y y' := by
  cases R with
  | val v l h hl =>
    subst h
    cases S with
    | val v' l' h' hl' => exact .of (ne_lists (lst_of N hl) (lst_of N hl') rfl (by omega) (one_eq (vis_eq N h1 h' (by show A.units + 1 < cLine; omega))))
    | fault c s' d o f1 f2 hd ho hm => cases h1
  | fault c s' d o h => exact h.elim
  | index t h => exact h.elim
  | value t tk h => exact h.elim
theorem res_fault {fc fs : FV} {c1 s1 y y' : Value} (N : News h₀ L s.heap nw) (R : ResR w nw (fun _ => False) (fun x => x = .fault c1 s1) y) (h1 : FIs nw fc c1) (h2 : FIs nw fs s1) (S : Res w nw (.fault fc fs) y') (hu : A.units + 2 < cLine) : RnW w A s y y' := by
  cases R with
  | val v l h hl => exact h.elim
  | fault c s' d o h hd ho hm =>
    cases h
    cases S with
    | val v' l' h' hl' => cases h'
    | fault c' s2 d' o' f1 f2 hd' ho' hm' =>
      exact fun E Q hq => keq_ne hd hd' (dct_of N hm ho) (dct_of N hm' ho') (by omega) (fun _ => hit1 (by rfl) (fis_eq N h1 f1 (by show A.units + 1 < cLine; omega)) (hit1 (by rfl) (fis_eq N h2 f2 (by show A.units + 1 < cLine; omega)) .nil)) hq
  | index t h => cases h
  | value t tk h => cases h
/-- what was noted down is what the law's table says -/
theorem pair_eq {x : Int} {name : Str} {its : Array Value} {tn : Tok} {t1 t2 : Addr} {v' : Value} (N : News h₀ L s.heap nw) (Ar : ArgsOf x name its) (m2 : (t2, tupOf #[.str name tn, .ref t1]) ∈ nw) (m1 : (t1, tupOf its) ∈ nw) (P : PairR x nw v') (hu : A.units + 2 < cLine) : EqAt A s (.ref t2) v' true := by
  have hu1 : A.in1.units < cLine := by show A.units + 1 < cLine; omega
  cases P with
  | mk t2' v1 v2 u0 u1 u2 u3 u4 u5 u6 a0 a1 a2 a3 a4 a5 a6 b0 b1 b2 b3 b4 b5 h h1 h2 k0 k1 k2 k3 k4 k5 k6 =>
    have h0 := Int.fmod_nonneg_of_pos x (show (0 : Int) < 7 by decide)
    cases Ar with
    | put hx ta =>
      obtain e | e : x.fmod 7 = 0 ∨ x.fmod 7 = 1 := by omega
      · rw [e] at h1 h2; simp [At] at h1 h2; subst h1 h2
        exact at_tuple (tup_of N m2) (tup_of N h) rfl (by omega) (two_eq (at_str _ _ _) (at_tuple (tup_of N m1) (tup_of N k0) rfl hu1 (one_eq (at_int _ _ _))))
      · rw [e] at h1 h2; simp [At] at h1 h2; subst h1 h2
        exact at_tuple (tup_of N m2) (tup_of N h) rfl (by omega) (two_eq (at_str _ _ _) (at_tuple (tup_of N m1) (tup_of N k1) rfl hu1 (one_eq (at_int _ _ _))))
    | take e =>
      rw [e] at h1 h2; simp [At] at h1 h2; subst h1 h2
      exact at_tuple (tup_of N m2) (tup_of N h) rfl (by omega) (two_eq (at_str _ _ _) (at_tuple (tup_of N m1) (tup_of N k2) rfl hu1 (fun j h1 _ => absurd h1 (Nat.not_lt_zero _))))
    | add e =>
      rw [e] at h1 h2; simp [At] at h1 h2; subst h1 h2
      exact at_tuple (tup_of N m2) (tup_of N h) rfl (by omega) (two_eq (at_str _ _ _) (at_tuple (tup_of N m1) (tup_of N k3) rfl hu1 (fun j h1 _ => absurd h1 (Nat.not_lt_zero _))))
    | turn e ta =>
      rw [e] at h1 h2; simp [At] at h1 h2; subst h1 h2
      exact at_tuple (tup_of N m2) (tup_of N h) rfl (by omega) (two_eq (at_str _ _ _) (at_tuple (tup_of N m1) (tup_of N k4) rfl hu1 (one_eq (at_int _ _ _))))
    | look e ta tb =>
      rw [e] at h1 h2; simp [At] at h1 h2; subst h1 h2
      exact at_tuple (tup_of N m2) (tup_of N h) rfl (by omega) (two_eq (at_str _ _ _) (at_tuple (tup_of N m1) (tup_of N k5) rfl hu1 (two_eq (at_int _ _ _) (at_str _ _ _))))
    | other e ta =>
      rw [e] at h1 h2; simp [At] at h1 h2; subst h1 h2
      exact at_tuple (tup_of N m2) (tup_of N h) rfl (by omega) (two_eq (at_str _ _ _) (at_tuple (tup_of N m1) (tup_of N k6) rfl hu1 (three_eq (at_int _ _ _) (EqAt.same _) (EqAt.same _))))
theorem ints_eq {a b : Addr} {vs us : List Value} {ns : List Int} {n k : Nat} (N : News h₀ L s.heap nw) (h1 : (a, listOf vs.toArray n) ∈ nw) (h2 : (b, listOf us.toArray k) ∈ nw) (i1 : IntsAre vs ns) (i2 : IntsAre us ns) (hu : A.units < cLine) : RcAt A s (.ref a) (.ref b) true := by
  have l1 := i1.length
  have l2 := i2.length
  refine eq_lists (lst_of N h1) (lst_of N h2) (by simp; omega) hu fun j g1 g2 => ?_
  obtain ⟨x, t, e1, e2⟩ := ints_at i1 (i := j) (Array.getElem?_eq_getElem g1)
  obtain ⟨x', t', e1', e2'⟩ := ints_at i2 (i := j) (Array.getElem?_eq_getElem g2)
  rw [e2, e2']
  obtain rfl : x = x' := Option.some.inj (e1.symm.trans e1')
  exact at_int _ _ _
end
end Mine
end
section
open PySem PySem.W PyProof.Rows PySem.Calls PySem.SeqAt
set_option Elab.async false
set_option maxRecDepth 100000
set_option maxHeartbeats 8000000
namespace Mine
/-- the end of a turn, the iterator laid aside -/
theorem endW {h₀ h' : Heap} {L I : Addr} {it : Obj} {rest : (Str → Option Value) → Led → Prop} {s₁ : Shared} {tk : Nat} {m' : Str → Option Value} {all : Led} (F : Fr h₀ L h' m') (N : News h₀ L h' all) (hI : (I, it) ∈ all) (r : rest m' (drop1 I all)) : UnrEndW h₀ L s₁ [(I, it)] rest { s₁ with heap := h', toks := tk } :=
  ⟨h', tk, m', drop1 I all, rfl, F, fun p hp => by
    rcases List.mem_cons.mp hp with rfl | hp
    · exact N _ hI
    · exact N _ (drop1_mem.mp hp).1, fun p hp q hq => by rw [List.mem_singleton.mp hq]; exact (drop1_mem.mp hp).2, r⟩
theorem endU {h₀ h' : Heap} {L I : Addr} {it : Obj} {rest : (Str → Option Value) → Led → Prop} {s₁ : Shared} {tk : Nat} {m' : Str → Option Value} {all : Led} (F : Fr h₀ L h' m') (N : News h₀ L h' all) (hI : (I, it) ∈ all) (r : rest m' (drop1 I all)) : UnrEnd h₀ L s₁ I it rest { s₁ with heap := h', toks := tk } :=
  UnrEnd.intro F N (drop1 I all) (fun p hp => by
    rcases List.mem_cons.mp hp with rfl | hp
    · exact hI
    · exact (drop1_mem.mp hp).1) (fun p hp => (drop1_mem.mp hp).2) r
theorem postW_mono {h₀ : Heap} {L : Addr} {s₁ s₂ : Shared} {its : Led} {r r' : (Str → Option Value) → Led → Prop} {Q : Flow → Shared → Prop} {f : Flow} (hr : ∀ m n, (∀ p ∈ n, ∀ q ∈ its, p.1 ≠ q.1) → r m n → r' m n) (h : UnrPostW h₀ L s₁ its r Q f s₂) : UnrPostW h₀ L s₁ its r' Q f s₂ := by
  have e : UnrEndW h₀ L s₁ its r s₂ → UnrEndW h₀ L s₁ its r' s₂ := fun ⟨h', tk, m', nw, e, F, N, o, hh⟩ => ⟨h', tk, m', nw, e, F, N, o, hr _ _ o hh⟩
  cases f with
  | ret v => exact h
  | brk => exact h
  | next => exact e h
  | cont => exact e h
/-- a loop over a list by an invariant -/
theorem items_rest {prog : Program} {w : World} {A : Around} {E : Value → Shared → Prop} {h₀ : Heap} {env : Env} {target : PySem.Expr} {body : List Stmt} {Q : Flow → Shared → Prop} {s : Shared} {I : Addr} {lp : Addr × Obj} (vs : List Value) (Inv : Nat → (Str → Option Value) → Led → Prop) (mem : ∀ i m n, Inv i m n → lp ∈ n)
    (fin : ∀ m news h tk, Inv vs.length m news → Fr h₀ env.locals h m → News h₀ env.locals h news → Q .next { s with heap := h, toks := tk })
    (turn : ∀ (Q' : Flow → Shared → Prop) (s' : Shared) i m news v h tk (o : Obj), vs[i]? = some v → Inv i m news → (∀ p ∈ news, p.1 ≠ I) → o.cls = .type "list_iterator" → Fr h₀ env.locals h m → News h₀ env.locals h ((I, o) :: news) →
      wpAny (model prog w) A (assign target env v) (fun _ s₂ => wpAny (model prog w) A (execs body env) (UnrPostW h₀ env.locals { s' with heap := h, toks := tk } [(I, o)] (fun m' n' => Inv (i + 1) m' n') Q') E s₂) E { s' with heap := h, toks := tk }) :
    ∀ (k i : Nat) (m : Str → Option Value) (news : Led), i + k = vs.length → Inv i m news → (∀ p ∈ news, p.1 ≠ I) → ItemsRest prog w A E h₀ env target body Q s [(I, "list_iterator")] [lp] ((vs.drop i).map .val) m news
  | 0, i, m, news, e, hI, _ => by
    rw [show vs.drop i = [] from List.drop_eq_nil_of_le (by omega)]
    exact ItemsRest.zero fun h tk F N => fin m news h tk ((show i = vs.length by omega) ▸ hI) F N
  | k + 1, i, m, news, e, hI, ho => by
    have hlt : i < vs.length := by omega
    rw [List.drop_eq_getElem_cons hlt]
    refine ItemsRest.val fun h tk F => AllObj.cons fun o ho' => AllObj.nil fun N => ?_
    refine wpAny_mono (turn Q s i m news _ h tk o (List.getElem?_eq_getElem hlt) hI ho ho' F N) (fun _ s₂ z => wpAny_mono z (fun f s₃ z => postW_mono (fun m' n' o' hh => ⟨⟨mem _ _ _ hh, trivial⟩, ?_⟩) z) fun _ _ z => z) fun _ _ z => z
    exact items_rest vs Inv mem fin turn k (i + 1) m' n' (by omega) hh fun p hp => o' p hp _ (.head _)
theorem frm1 {x : Str} {m1 : Str → Option Value} : ∃ v, m1 = fun y => if y = x then v else m1 y := ⟨m1 x, funext fun y => by split <;> simp_all⟩
/-- a ledger with the one thing that changes at its head -/
theorem headed {h₀ h : Heap} {L a : Addr} {o : Obj} {full : Led} (N : News h₀ L h full) (hm : (a, o) ∈ full) : News h₀ L h ((a, o) :: drop1 a full) ∧ UpdF a o ((a, o) :: drop1 a full) (fun o' => (a, o') :: drop1 a full) :=
  ⟨fun p hp => by
    rcases List.mem_cons.mp hp with rfl | hp
    · exact N _ hm
    · exact N _ (drop1_mem.mp hp).1, .head fun q hq => (drop1_mem.mp hq).2⟩
theorem in_headed {a : Addr} {o : Obj} {full : Led} {q : Addr × Obj} (h : q ∈ full) (n : q.1 ≠ a) : q ∈ (a, o) :: drop1 a full := .tail _ (drop1_mem.mpr ⟨h, n⟩)
/-- the calls that are noted down so far -/
def Noted (lC : Addr) (xs : List Int) (i : Nat) (news : Led) : Prop := ∃ (cs : List Value) (n : Nat), (lC, listOf cs.toArray n) ∈ news ∧ cs.length = i ∧ ∀ (j : Nat) (c : Value), cs[j]? = some c → ∃ x name its tn t1 t2, xs[j]? = some x ∧ ArgsOf x name its ∧ c = .ref t2 ∧ (t2, tupOf #[.str name tn, .ref t1]) ∈ news ∧ (t1, tupOf its) ∈ news
theorem noted_step {h₀ h : Heap} {L lC I : Addr} {itO : Obj} {xs : List Int} {i : Nat} {x : Int} {name : Str} {its : Array Value} {tn : Tok} {t1 t2 : Addr} {cs : List Value} {n' : Nat} {news : Led} {all : Led} (hx : xs[i]? = some x) (Ar : ArgsOf x name its) (hc : itO.cls = .type "list_iterator") (N : News h₀ L h all) (mI : (I, itO) ∈ all)
    (hcs : cs.length = i) (hold : ∀ (j : Nat) (c : Value), cs[j]? = some c → ∃ x name its tn t1 t2, xs[j]? = some x ∧ ArgsOf x name its ∧ c = .ref t2 ∧ (t2, tupOf #[.str name tn, .ref t1]) ∈ news ∧ (t1, tupOf its) ∈ news) (hup : ∀ q ∈ news, q.2.cls = .type "tuple" → q ∈ all)
    (m2 : (t2, tupOf #[.str name tn, .ref t1]) ∈ all) (m1 : (t1, tupOf its) ∈ all) (mC : (lC, listOf (cs ++ [Value.ref t2]).toArray n') ∈ all) : Noted lC xs (i + 1) (drop1 I all) := by
  have off : ∀ {a : Addr} {o : Obj}, (a, o) ∈ all → o.cls ≠ itO.cls → (a, o) ∈ drop1 I all := fun hm hn => drop1_mem.mpr ⟨hm, ne_obj N hm mI fun e => hn (by rw [e])⟩
  refine ⟨_, n', off mC (by rw [hc]; exact fun e => absurd (Value.type.inj e) (by decide)), by simp [hcs], fun j c e => ?_⟩
  by_cases hj : j < cs.length
  · rw [List.getElem?_append_left hj] at e
    obtain ⟨x, name, its, tn, t1, t2, a1, a2, a3, a4, a5⟩ := hold j c e
    exact ⟨x, name, its, tn, t1, t2, a1, a2, a3, off (hup _ a4 rfl) (by rw [hc]; exact fun e => absurd (Value.type.inj e) (by decide)), off (hup _ a5 rfl) (by rw [hc]; exact fun e => absurd (Value.type.inj e) (by decide))⟩
  · have hj' : j = cs.length := by
      have := (List.getElem?_eq_some_iff.mp e).1
      simp at this; omega
    subst hj'
    have : c = .ref t2 := by simpa using e.symm
    exact ⟨x, name, its, tn, t1, t2, by rw [hcs]; exact hx, Ar, this, off m2 (by rw [hc]; exact fun e => absurd (Value.type.inj e) (by decide)), off m1 (by rw [hc]; exact fun e => absurd (Value.type.inj e) (by decide))⟩
/-- one turn of the loop that notes the calls down -/
def NoInv (x : Str) (m1 : Str → Option Value) (xs : List Int) (nw : Led) (lC : Addr) (i : Nat) (m : Str → Option Value) (news : Led) : Prop := (∃ v, m = fun y => if y = x then v else m1 y) ∧ Noted lC xs i news ∧ ∀ q ∈ drop1 lC nw, q ∈ news
theorem noted_zero {lC : Addr} {xs : List Int} {n : Nat} {news : Led} (h : (lC, listOf #[] n) ∈ news) : Noted lC xs 0 news := ⟨[], n, h, rfl, fun j c e => nomatch (show (none : Option Value) = some c from by simpa using e)⟩
theorem frm_next {x : Str} {m1 : Str → Option Value} {v vp : Option Value} : (fun y => if y = x then v else (fun y => if y = x then vp else m1 y) y) = fun y => if y = x then v else m1 y := funext fun y => by by_cases h : y = x <;> simp [h]
theorem noinv_next {y0 : Str} {m1 : Str → Option Value} {xs : List Int} {nw : Led} {h₀ h h2 : Heap} {L lC I : Addr} {itO : Obj} {i : Nat} {x : Int} {name : Str} {its : Array Value} {tn : Tok} {t1 t2 : Addr} {cs : List Value} {n n' : Nat} {news : Led} {v vp : Option Value} (hx : xs[i]? = some x) (Ar : ArgsOf x name its) (hc : itO.cls = .type "list_iterator")
    (hcs : cs.length = i) (hold : ∀ (j : Nat) (c : Value), cs[j]? = some c → ∃ x name its tn t1 t2, xs[j]? = some x ∧ ArgsOf x name its ∧ c = .ref t2 ∧ (t2, tupOf #[.str name tn, .ref t1]) ∈ news ∧ (t1, tupOf its) ∈ news) (hk : ∀ q ∈ drop1 lC nw, q ∈ news) (off : ∀ p ∈ news, p.1 ≠ I) (mC : (lC, listOf cs.toArray n) ∈ news)
    (N0 : News h₀ L h ((I, itO) :: news)) (N : News h₀ L h2 ((t2, tupOf #[.str name tn, .ref t1]) :: (t1, tupOf its) :: (lC, listOf (cs ++ [Value.ref t2]).toArray n') :: drop1 lC ((I, itO) :: news))) :
    NoInv y0 m1 xs nw lC (i + 1) (fun y => if y = y0 then v else (fun y => if y = y0 then vp else m1 y) y) (drop1 I ((t2, tupOf #[.str name tn, .ref t1]) :: (t1, tupOf its) :: (lC, listOf (cs ++ [Value.ref t2]).toArray n') :: drop1 lC ((I, itO) :: news))) := by
  have mI : (I, itO) ∈ ((t2, tupOf #[.str name tn, .ref t1]) :: (t1, tupOf its) :: (lC, listOf (cs ++ [Value.ref t2]).toArray n') :: drop1 lC ((I, itO) :: news)) := .tail _ (.tail _ (.tail _ (drop1_mem.mpr ⟨.head _, Ne.symm (off _ mC)⟩)))
  refine ⟨⟨v, frm_next⟩, noted_step hx Ar hc N mI hcs hold (fun q hq hcl => .tail _ (.tail _ (.tail _ (drop1_mem.mpr ⟨.tail _ hq, ne_obj N0 (.tail _ hq) (.tail _ mC) (by rw [hcl]; exact fun e => absurd (Value.type.inj e) (by decide))⟩)))) (.head _) (.tail _ (.head _)) (.tail _ (.tail _ (.head _))), fun q hq => drop1_mem.mpr ⟨.tail _ (.tail _ (.tail _ (drop1_mem.mpr ⟨.tail _ (hk q hq), (drop1_mem.mp hq).2⟩))), off q (hk q hq)⟩⟩
theorem noinv_in {lC I : Addr} {itO : Obj} {a b c : Addr × Obj} {n : Nat} {cs : List Value} {news : Led} (off : ∀ p ∈ news, p.1 ≠ I) (mC : (lC, listOf cs.toArray n) ∈ news) : (I, itO) ∈ a :: b :: c :: drop1 lC ((I, itO) :: news) := .tail _ (.tail _ (.tail _ (drop1_mem.mpr ⟨.head _, Ne.symm (off _ mC)⟩)))
theorem note_in {w : World} {lC mA dA : Addr} {t1 t2 t3 : Tok} {x : Int} {tx : Tok} : NotesAny w lC x [(mA, instObj 84 dA), (dA, multDict w t1 t2 t3 lC "s")] (.ref 165) [.ref mA, .int x tx] := note_any (.head _) (.tail _ (.head _))
theorem open5 {h₀ h : Heap} {L : Addr} {a1 a2 a3 a4 a5 : Addr × Obj} {news : Led} (N : News h₀ L h (a1 :: a2 :: a3 :: a4 :: a5 :: news)) : ∃ nw, News h₀ L h nw ∧ a1 ∈ nw ∧ a2 ∈ nw ∧ a3 ∈ nw ∧ a4 ∈ nw ∧ a5 ∈ nw ∧ ∀ q ∈ news, q ∈ nw := ⟨_, N, by simp, by simp, by simp, by simp, by simp, fun q hq => .tail _ (.tail _ (.tail _ (.tail _ (.tail _ hq))))⟩
end Mine
end
section
open PySem PySem.W PyProof.Rows PySem.Calls PySem.SeqAt PySem.MeetsSeq PySem.MeetsSeq3
set_option Elab.async false
set_option maxRecDepth 100000
set_option maxHeartbeats 8000000
namespace Mine
theorem mem_three {α : Type} {a b c : α} {ex nw : List α} {p : α} (h : p ∈ a :: b :: c :: (ex ++ nw)) : p ∈ ex ++ (a :: b :: c :: nw) := by
  simp only [List.mem_cons, List.mem_append] at h ⊢
  rcases h with h | h | h | h | h <;> simp [h]
theorem off3_app {I C D : Addr} {oI oC oD : Obj} {ex nw : List (Addr × Obj)} (fr : ∀ q ∈ ex, ∀ q' ∈ (I, oI) :: (C, oC) :: (D, oD) :: nw, q'.1 < q.1) (off : LCg.Off3 I C D nw) : LCg.Off3 I C D (ex ++ nw) :=
  LCg.Off3.of fun p hp => by
    rcases List.mem_append.mp hp with hp | hp
    · exact ⟨Nat.ne_of_gt (fr p hp (I, oI) (.head _)), Nat.ne_of_gt (fr p hp (C, oC) (.tail _ (.head _))), Nat.ne_of_gt (fr p hp (D, oD) (.tail _ (.tail _ (.head _))))⟩
    · exact off.mem p hp
/-- the second comprehension: the pairs of the law's table -/
def PInvC (xs : List Int) (nw : Led) (i : Nat) (ys : List Value) (news : Led) : Prop := (∀ q ∈ nw, q ∈ news) ∧ ys.length = i ∧ ∀ (j : Nat) (y : Value), ys[j]? = some y → ∃ x, xs[j]? = some x ∧ PairR x news y
theorem pinvc_start {xs : List Int} {nw : Led} : PInvC xs nw 0 [] nw := ⟨fun _ h => h, rfl, fun j y e => nomatch (show (none : Option Value) = some y from by simpa using e)⟩
theorem pinvc_step {xs : List Int} {nw : Led} {i : Nat} {ys : List Value} {news ex : Led} {x : Int} {v : Value} (h : PInvC xs nw i ys news) (hx : xs[i]? = some x) (hP : PairR x ex v) : PInvC xs nw (i + 1) (ys ++ [v]) (ex ++ news) := by
  obtain ⟨h1, h2, h3⟩ := h
  refine ⟨fun q hq => List.mem_append_right _ (h1 q hq), by simp [h2], fun j y e => ?_⟩
  by_cases hj : j < ys.length
  · rw [List.getElem?_append_left hj] at e
    obtain ⟨x, hx, p⟩ := h3 j y e
    exact ⟨x, hx, p.mono fun q hq => List.mem_append_right _ hq⟩
  · have hj' : j = ys.length := by
      have := (List.getElem?_eq_some_iff.mp e).1
      simp at this; omega
    subst hj'
    have : y = v := by simpa using e.symm
    subst this
    exact ⟨x, by rw [h2]; exact hx, hP.mono fun q hq => List.mem_append_left _ hq⟩
/-- the calls that were noted down are what the table says -/
theorem calls_ne {A : Around} {s : Shared} {h₀ : Heap} {L lC D : Addr} {xs : List Int} {n : Nat} {ys : List Value} {nw l l' nwx : Led} (N : News h₀ L s.heap nw) (hC : Noted lC xs n l) (hs : ∀ q ∈ l, q ∈ nw) (hP : PInvC xs nwx n ys l') (hs' : ∀ q ∈ l', q ∈ nw) (hD : (D, LCg.lst ys) ∈ nw) (hu : A.units + 4 < cLine) : RcNeAt A s (.ref lC) (.ref D) false := by
  obtain ⟨cs, k, hm, hl, hh⟩ := hC
  obtain ⟨h1, h2, h3⟩ := hP
  refine ne_lists (lst_of N (hs _ hm)) (lst_of N hD) (by simp [hl, h2]) (by omega) fun j g1 g2 => ?_
  have e1 : cs[j]? = some cs.toArray[j] := by simpa using Array.getElem?_eq_getElem g1
  have e2 : ys[j]? = some ys.toArray[j] := by simpa using Array.getElem?_eq_getElem g2
  obtain ⟨x, name, its, tn, t1, t2, a1, a2, a3, a4, a5⟩ := hh j _ e1
  obtain ⟨x', b1, b2⟩ := h3 j _ e2
  obtain rfl : x = x' := Option.some.inj (a1.symm.trans b1)
  rw [a3]
  exact pair_eq N a2 (hs _ a4) (hs _ a5) (b2.mono hs') (by show A.units + 1 + 2 < cLine; omega)
/-- an answer of the other server, as it stands in the list of answers -/
inductive Ans (w : World) (nx : Led) : Rep → Value → Prop
  | val {O : Rep} (v : Value) (l : Addr) (n : Nat) (t : Tok) (h : VIs nx O v) (hl : (l, listOf #[v, .str "behind" t] n) ∈ nx) : Ans w nx O (.ref l)
  | fault {fc fs : FV} (c s : Value) (d : Addr) (o : Obj) (h1 : FIs nx fc c) (h2 : FIs nx fs s) (ho : Obj.IsDictOf (s4 w) o [("faultCode", c), ("faultString", s)]) (hm : (d, o) ∈ nx) : Ans w nx (.fault fc fs) (.ref d)
theorem Ans.mono {w : World} {nx nx2 : Led} {O : Rep} {v : Value} (h : Ans w nx O v) (s : ∀ q ∈ nx, q ∈ nx2) : Ans w nx2 O v := by
  cases h with
  | val v l n t h hl => exact .val v l n t (h.mono s) (s _ hl)
  | fault c s' d o h1 h2 ho hm => exact .fault c s' d o (h1.mono s) (h2.mono s) ho (s _ hm)
def Frm3 (m1 m : Str → Option Value) : Prop := ∃ v1 v2 v3, m = fun (y : Str) => if y = "told" then v1 else if y = "args" then v2 else if y = "name" then v3 else m1 y
theorem frm3_start {m1 : Str → Option Value} : Frm3 m1 m1 := ⟨m1 "told", m1 "args", m1 "name", funext fun y => by
  split
  · rename_i h; rw [h]
  · split
    · rename_i h; rw [h]
    · split
      · rename_i h; rw [h]
      · rfl⟩
theorem frm3_next {m1 : Str → Option Value} {a b c d e f : Option Value} : Frm3 m1 (fun (y : Str) => if y = "told" then a else (fun (y : Str) => if y = "args" then b else (fun (y : Str) => if y = "name" then c else (fun (y : Str) => if y = "told" then d else if y = "args" then e else if y = "name" then f else m1 y) y) y) y) := ⟨a, b, c, funext fun y => by
  by_cases h : y = "told"
  · simp [h]
  · by_cases h' : y = "args"
    · simp [h']
    · by_cases h'' : y = "name" <;> simp [h, h', h'']⟩
/-- the loop over the calls: the other heap, its table, the answers so far -/
def AInv (w : World) (m1 : Str → Option Value) (lO lA : Addr) (xs : List Int) (keep : Led) (i : Nat) (m : Str → Option Value) (news : Led) : Prop :=
  Frm3 m1 m ∧ (∃ vs n, (lO, listOf vs.toArray n) ∈ news ∧ IntsAre vs (heapAt xs i)) ∧ (∃ ps, (188, tabObj ps) ∈ news ∧ TabS pos2 qual2 (drop1 lA news) ps) ∧
    (∃ (as : List Value) (n : Nat), (lA, listOf as.toArray n) ∈ news ∧ as.length = i ∧ ∀ (j : Nat) (y : Value), as[j]? = some y → ∃ R, (∀ q ∈ R, q ∈ news ∧ q.1 ≠ lO ∧ q.1 ≠ 188 ∧ q.1 ≠ lA) ∧ Ans w R (repAt xs j) y) ∧ (∀ q ∈ keep, q ∈ news)
theorem ainv_start {w : World} {m1 : Str → Option Value} {lO lA : Addr} {xs : List Int} {keep news : Led} {n k : Nat} (h1 : (lO, listOf #[] n) ∈ news) (h2 : (188, tabObj #[]) ∈ news) (h3 : (lA, listOf #[] k) ∈ news) (hk : ∀ q ∈ keep, q ∈ news) : AInv w m1 lO lA xs keep 0 m1 news :=
  ⟨frm3_start, ⟨[], n, h1, .nil⟩, ⟨#[], h2, .empty rfl⟩, ⟨[], k, h3, rfl, fun j y e => nomatch (show (none : Option Value) = some y from by simpa using e)⟩, hk⟩
theorem ainv_step {w : World} {m1 m' : Str → Option Value} {lO lA I : Addr} {itO : Obj} {xs : List Int} {keep news nw' nx ex R' : Led} {i n' : Nat} {as : List Value} {y : Value} {n : Nat} {vs : List Value} {nO : Nat} {ps : Array Value} (hm : Frm3 m1 m') (off : ∀ p ∈ news, p.1 ≠ I) (hOA : lO ≠ lA) (hO8 : lO ≠ 188) (hA8 : lA ≠ 188)
    (mO : (lO, listOf vs.toArray nO) ∈ news) (m8 : (188, tabObj ps) ∈ news) (mA : (lA, listOf as.toArray n) ∈ news) (hl : as.length = i) (hold : ∀ (j : Nat) (y : Value), as[j]? = some y → ∃ R, (∀ q ∈ R, q ∈ news ∧ q.1 ≠ lO ∧ q.1 ≠ 188 ∧ q.1 ≠ lA) ∧ Ans w R (repAt xs j) y) (hk : ∀ q ∈ keep, q ∈ news) (hkn : ∀ q ∈ keep, q.1 ≠ lO ∧ q.1 ≠ 188 ∧ q.1 ≠ lA)
    (up : ∀ q ∈ (I, itO) :: news, q ∈ nw')
    {vs' : List Value} {k' : Nat} {ps' : Array Value} (o1 : (lO, listOf vs'.toArray k') ∈ nx) (o2 : IntsAre vs' (heapAt xs (i + 1))) (o3 : (188, tabObj ps') ∈ nx) (o4 : ∃ nt', TabS pos2 qual2 nt' ps' ∧ ∀ q ∈ nt', q ∈ nx ∧ (q ∈ drop1 188 (drop1 lO (drop1 lA news)) ∨ ∀ q' ∈ nw', q'.1 < q.1)) (o5 : ∀ q ∈ nw', q.1 ≠ lO → q.1 ≠ 188 → q ∈ nx)
    (fx : ∀ q ∈ ex, ∀ q' ∈ nx, q'.1 < q.1) (R1 : ∀ q ∈ R', (q ∈ nx ∧ ∀ q' ∈ nw', q'.1 < q.1) ∨ q ∈ ex) (R2 : Ans w R' (repAt xs i) y) :
    AInv w m1 lO lA xs keep (i + 1) m' (drop1 I (ex ++ (lA, listOf (as ++ [y]).toArray n') :: drop1 lA nx)) := by
  have upn : ∀ q ∈ news, q ∈ nw' := fun q hq => up q (.tail _ hq)
  have nI : ∀ {a : Addr} {o : Obj}, (a, o) ∈ news → a ≠ I := fun hm => off _ hm
  have xI : (I, itO) ∈ nx := o5 _ (up _ (.head _)) (Ne.symm (nI mO)) (Ne.symm (nI m8))
  have fI : ∀ q : Addr × Obj, (∀ q' ∈ nw', q'.1 < q.1) → q.1 ≠ I ∧ q.1 ≠ lO ∧ q.1 ≠ 188 ∧ q.1 ≠ lA := fun q h => ⟨Nat.ne_of_gt (h _ (up _ (.head _))), Nat.ne_of_gt (h _ (upn _ mO)), Nat.ne_of_gt (h _ (upn _ m8)), Nat.ne_of_gt (h _ (upn _ mA))⟩
  have mAx : (lA, listOf as.toArray n) ∈ nx := o5 _ (upn _ mA) (Ne.symm hOA) hA8
  have fE : ∀ q ∈ ex, q.1 ≠ I ∧ q.1 ≠ lO ∧ q.1 ≠ 188 ∧ q.1 ≠ lA := fun q h => ⟨Nat.ne_of_gt (fx q h _ xI), Nat.ne_of_gt (fx q h _ o1), Nat.ne_of_gt (fx q h _ o3), Nat.ne_of_gt (fx q h _ mAx)⟩
  have toD : ∀ q ∈ nx, q.1 ≠ lA → q.1 ≠ I → q ∈ drop1 I (ex ++ (lA, listOf (as ++ [y]).toArray n') :: drop1 lA nx) := fun q h1 h2 h3 => drop1_mem.mpr ⟨List.mem_append_right _ (.tail _ (drop1_mem.mpr ⟨h1, h2⟩)), h3⟩
  have upO : ∀ q ∈ news, q.1 ≠ lO → q.1 ≠ 188 → q.1 ≠ lA → q ∈ drop1 I (ex ++ (lA, listOf (as ++ [y]).toArray n') :: drop1 lA nx) := fun q hq a b c => toD q (o5 q (upn q hq) a b) c (off q hq)
  refine ⟨hm, ⟨vs', k', toD _ o1 hOA (nI mO), o2⟩, ⟨ps', toD _ o3 (Ne.symm hA8) (nI m8), ?_⟩, ⟨as ++ [y], n', drop1_mem.mpr ⟨List.mem_append_right _ (.head _), nI mA⟩, by simp [hl], fun j y' e => ?_⟩, fun q hq => upO q (hk q hq) (hkn q hq).1 (hkn q hq).2.1 (hkn q hq).2.2⟩
  · obtain ⟨nt', h1, h2⟩ := o4
    refine tabMono h1 fun q hq => ?_
    obtain ⟨h3, h4⟩ := h2 q hq
    rcases h4 with h4 | h4
    · have := drop1_mem.mp h4
      have h5 := drop1_mem.mp this.1
      have h6 := drop1_mem.mp h5.1
      exact drop1_mem.mpr ⟨toD q h3 h6.2 (off q h6.1), h6.2⟩
    · exact drop1_mem.mpr ⟨toD q h3 (fI q h4).2.2.2 (fI q h4).1, (fI q h4).2.2.2⟩
  · by_cases hj : j < as.length
    · rw [List.getElem?_append_left hj] at e
      obtain ⟨R0, h0, r0⟩ := hold j y' e
      exact ⟨R0, fun q hq => ⟨upO q (h0 q hq).1 (h0 q hq).2.1 (h0 q hq).2.2.1 (h0 q hq).2.2.2, (h0 q hq).2⟩, r0⟩
    · have hj' : j = as.length := by
        have := (List.getElem?_eq_some_iff.mp e).1
        simp at this; omega
      subst hj'
      have : y' = y := by simpa using e.symm
      rw [this, hl]
      refine ⟨R', fun q hq => ?_, R2⟩
      rcases R1 q hq with ⟨h1, h2⟩ | h1
      · exact ⟨toD q h1 (fI q h2).2.2.2 (fI q h2).1, (fI q h2).2⟩
      · exact ⟨drop1_mem.mpr ⟨List.mem_append_left _ h1, (fE q h1).1⟩, (fE q h1).2⟩
theorem handed_fis {nw : Led} {f : FV} {v : Value} (h : FIs nw f v) : handedIn v = true := by
  cases h <;> rfl
/-- reading the answer at one place is what the single call gave -/
theorem read_ans {w : World} {nw : Led} {itA d lA : Addr} {tk : Tok} {as : Array Value} {n : Nat} {z : Int} {a : Value} {O : Rep} (h1 : (itA, instObj 112 d) ∈ nw) (h2 : (d, dictOf [⟨PyData.keyHash w.params "results", .str "results" tk, .ref lA⟩] 1) ∈ nw) (h3 : (lA, listOf as n) ∈ nw) (hz : At as z a) (hA : Ans w nw O a) :
    ∃ V Y, Reads4 w nw (.ref itA) z 2 V Y ∧ (∀ c s, Y (.fault c s) → handedIn c = true ∧ handedIn s = true) ∧ ∀ {A : Around} {s : Shared} {h₀ : Heap} {L : Addr} {nx : Led} {y y' : Value}, News h₀ L s.heap nx → (∀ q ∈ nw, q ∈ nx) → ResR w nx V Y y → Res w nx O y' → A.units + 2 < cLine → RnW w A s y y' := by
  cases hA with
  | val v l n t h hl =>
    exact ⟨_, _, reads_val (step_list (yields_list h3 hz) h1 h2 hl (.inl ⟨by decide, by decide, rfl⟩)), fun _ _ h => h.elim, fun N s R S hu => res_val N R (h.mono s) S hu⟩
  | fault c s' d' o f1 f2 ho hm =>
    obtain ⟨es, k, rfl, hk, hf⟩ := dict_shape ho
    refine ⟨_, _, reads_exc (step_fault (yields_list h3 hz) h1 h2 hm hk (hf _) (hf _)), fun c' s'' h => ?_, fun N s R S hu => res_fault N R (f1.mono s) (f2.mono s) S hu⟩
    cases h
    exact ⟨handed_fis f1, handed_fis f2⟩
theorem note_from {w : World} {lC mA dA : Addr} {t1 t2 t3 : Tok} {nw : Led} (_h1 : (mA, instObj 84 dA) ∈ nw) (_h2 : (dA, multDict w t1 t2 t3 lC "s") ∈ nw) : ∀ (x : Int) (tx : Tok), NotesAny w lC x [(mA, instObj 84 dA), (dA, multDict w t1 t2 t3 lC "s")] (.ref 165) [.ref mA, .int x tx] := fun _ _ => note_in
theorem two_in {a b : Addr × Obj} {l : Led} (h1 : a ∈ l) (h2 : b ∈ l) : ∀ q ∈ [a, b], q ∈ l := fun q hq => by
  rcases List.mem_cons.mp hq with rfl | hq
  · exact h1
  · rw [List.mem_singleton.mp hq]; exact h2
/-- what stays while the calls are worked off -/
noncomputable def keepA (lO lA : Addr) (nw : Led) : Led := drop1 lA (drop1 188 (drop1 lO nw))
theorem keepA_mem {lO lA : Addr} {nw : Led} {q : Addr × Obj} : q ∈ keepA lO lA nw ↔ q ∈ nw ∧ q.1 ≠ lO ∧ q.1 ≠ 188 ∧ q.1 ≠ lA := by
  unfold keepA
  rw [drop1_mem, drop1_mem, drop1_mem]
  constructor
  · rintro ⟨⟨⟨a, b⟩, c⟩, d⟩; exact ⟨a, b, c, d⟩
  · rintro ⟨a, b, c, d⟩; exact ⟨⟨⟨a, b⟩, c⟩, d⟩
theorem keepA_ne {lO lA : Addr} {nw : Led} : ∀ q ∈ keepA lO lA nw, q.1 ≠ lO ∧ q.1 ≠ 188 ∧ q.1 ≠ lA := fun _ h => (keepA_mem.mp h).2
theorem ainv_start2 {w : World} {m1 : Str → Option Value} {lO lA : Addr} {xs : List Int} {nw : Led} {n k : Nat} (h1 : (lO, listOf #[] n) ∈ nw) (h2 : (188, tabObj #[]) ∈ nw) (h3 : (lA, listOf #[] k) ∈ nw) : AInv w m1 lO lA xs (keepA lO lA nw) 0 m1 nw := ainv_start h1 h2 h3 fun _ h => (keepA_mem.mp h).1
theorem ainv_mem {w : World} {m1 m : Str → Option Value} {lO lA : Addr} {xs : List Int} {keep news : Led} {i : Nat} {q : Addr × Obj} (h : AInv w m1 lO lA xs keep i m news) (hq : q ∈ keep) : q ∈ news := h.2.2.2.2 q hq
theorem open_ans {h₀ h : Heap} {L lA lO lC D : Addr} {oD : Obj} {news : Led} {k n : Nat} {cs : List Value} (N : News h₀ L h ((lA, listOf #[] k) :: (D, oD) :: news)) (l : @LT.lt Nat _ D lA ∧ AllLt lA news) (mO : (lO, listOf #[] 0) ∈ news) (mC : (lC, listOf cs.toArray n) ∈ news) (hcs : 0 < cs.length) (m8 : (188, tabObj #[]) ∈ news) :
    ∃ nw, News h₀ L h nw ∧ (lA, listOf #[] k) ∈ nw ∧ (lO, listOf #[] 0) ∈ nw ∧ (lC, listOf cs.toArray n) ∈ keepA lO lA nw ∧ (188, tabObj #[]) ∈ nw ∧ lO ≠ lA ∧ lO ≠ 188 ∧ lA ≠ 188 ∧ (∀ q ∈ news, q.1 ≠ lO → q.1 ≠ 188 → q ∈ keepA lO lA nw) ∧ (∀ q ∈ news, q ∈ nw) := by
  have lt := ktn_ltOf l.2
  have N' : News h₀ L h news := news_sub N fun q hq => .tail _ (.tail _ hq)
  have up : ∀ q ∈ news, q.1 ≠ lO → q.1 ≠ 188 → q ∈ keepA lO lA ((lA, listOf #[] k) :: (D, oD) :: news) := fun q hq a b => keepA_mem.mpr ⟨.tail _ (.tail _ hq), a, b, Nat.ne_of_lt (lt q hq)⟩
  exact ⟨_, N, .head _, .tail _ (.tail _ mO), up _ mC (ne_data N' mC mO (by
    intro e
    have e2 : cs.toArray = #[] := by injection e
    have := congrArg Array.size e2
    simp at this
    rw [this] at hcs
    exact absurd hcs (by decide))) (ne_obj N' mC m8 (by simp)), .tail _ (.tail _ m8), Nat.ne_of_lt (lt _ mO), ne_obj N' mO m8 (by simp), Nat.ne_of_gt (lt _ m8), up, fun q hq => .tail _ (.tail _ hq)⟩
theorem worked_use {w : World} {xs : List Int} {i : Nat} {x : Int} {name : Str} {its : Array Value} {tn : Tok} {t1 lO : Addr} {nt : Led} (hx : xs[i]? = some x) (hl : xs.length ≤ 67) (Ar : ArgsOf x name its) :
    Taken w 42 (PreS pos2 qual2 188 lO (heapAt xs i) [(t1, tupOf its)] nt) (OutS w pos2 qual2 188 lO (heapAt xs (i + 1)) (repAt xs i) nt) (.ref 193) [.ref lO, .str name tn, .ref t1] := by
  have hi : i < xs.length := (List.getElem?_eq_some_iff.mp hx).1
  have h1 := heapAt_len (xs := xs) i
  have hd := srv_args (w := w) (lH := lO) Ar (show (heapAt xs i).length ≤ 1000 by omega) t1 tn
  rw [← heapAt_succ hx, ← repAt_eq hx] at hd
  refine worked (fun c fs e => ?_) hd
  rw [repAt_eq hx] at e
  rw [heapAt_succ hx]
  exact ans_fault c fs e
theorem ainv_in {lA I : Addr} {itO oA : Obj} {ex nx : Led} (xI : (I, itO) ∈ nx) (h : I ≠ lA) : (I, itO) ∈ ex ++ (lA, oA) :: drop1 lA nx := List.mem_append_right _ (.tail _ (drop1_mem.mpr ⟨xI, h⟩))
theorem tup_at {h₀ h : Heap} {L a : Addr} {its : Array Value} {nw : Led} (N : News h₀ L h nw) (hm : (a, tupOf its) ∈ nw) : h.IsTuple a its := ⟨_, (N _ hm).1, rfl, _, rfl⟩
theorem res_split {w : World} {R : Led} {O : Rep} {v : Value} (h : Res w R O v) :
    (∃ v0 l0, v = .ref l0 ∧ (l0, listOf #[v0] 0) ∈ R ∧ ∀ (R' : Led) (l : Addr) (n : Nat) (t : Tok), (∀ q ∈ R, q ∈ R') → (l, listOf #[v0, .str "behind" t] n) ∈ R' → Ans w R' O (.ref l)) ∨ (∃ d0 es nd, v = .ref d0 ∧ (d0, dictOf es nd) ∈ R ∧ Ans w R O (.ref d0)) := by
  cases h with
  | val v0 l0 h hl => exact .inl ⟨v0, l0, rfl, hl, fun R' l n t s hm => .val v0 l n t (h.mono s) hm⟩
  | fault c s' d o h1 h2 hd ho hm =>
    obtain ⟨es, nd, rfl, _, _⟩ := dict_shape ho
    exact .inr ⟨d, es, nd, rfl, hm, .fault c s' d _ h1 h2 ho hm⟩
theorem headedG {h₀ h : Heap} {L a : Addr} {o : Obj} {full : Led} (N : News h₀ L h full) (hm : (a, o) ∈ full) : ∃ nw' g, News h₀ L h nw' ∧ UpdF a o nw' g ∧ (∀ q ∈ full, q.1 ≠ a → q ∈ nw') ∧ (a, o) ∈ nw' ∧ (∀ o', g o' = (a, o') :: drop1 a full) ∧ (∀ q ∈ nw', q ∈ full) ∧ ∀ b : Addr, (∀ p ∈ nw', p.1 < b) → ∀ p ∈ full, p.1 < b :=
  ⟨_, _, (headed N hm).1, (headed N hm).2, fun q hq hn => in_headed hq hn, .head _, fun _ => rfl, fun q hq => by
    rcases List.mem_cons.mp hq with rfl | hq
    · exact hm
    · exact (drop1_mem.mp hq).1, fun b hb p hp => by
    by_cases e : p.1 = a
    · rw [e]; exact hb _ (.head _)
    · exact hb _ (in_headed hp e)⟩
section
variable {prog : Program} {w : World} {A : Around} {E : Value → Shared → Prop} {h₀ h : Heap} {L l : Addr} {nw : Led} {g d os} {tk : Nat} {Q : Value → Shared → Prop}
theorem isi_ll {vs : Array Value} {n : Nat} (N : News h₀ L h nw) (hm : (l, listOf vs n) ∈ nw) (q : Q (.bool true) ⟨h, g, d, tk, os⟩) : wpAny (model prog w) A (call (.builtin "isinstance") [.ref l, .type "list"]) Q E ⟨h, g, d, tk, os⟩ := IsiPair.list_list (N _ hm).1 rfl q
theorem isi_dl {es : List DictEntry} {n : Nat} (N : News h₀ L h nw) (hm : (l, dictOf es n) ∈ nw) (q : Q (.bool false) ⟨h, g, d, tk + 1, os⟩) : wpAny (model prog w) A (call (.builtin "isinstance") [.ref l, .type "list"]) Q E ⟨h, g, d, tk, os⟩ := IsiPair.dict_list (N _ hm).1 rfl q
end
/-- a mark: the list of answers grows here -/
def LoopTwo : Prop := True
theorem fr_two {a b : Addr} {oa ob : Obj} {l : Led} (h1 : ∀ p ∈ l, p.1 < a) (h2 : ∀ p ∈ l, p.1 < b) : ∀ q ∈ [(a, oa), (b, ob)], ∀ q' ∈ l, q'.1 < q.1 := fun q hq q' hq' => by
  rcases List.mem_cons.mp hq with rfl | hq
  · exact h1 q' hq'
  · rw [List.mem_singleton.mp hq]; exact h2 q' hq'
theorem r_tail {a : Addr × Obj} {ex R nx nw : Led} (hs : ∀ q ∈ R, q ∈ nx) (hf : ∀ q ∈ R, ∀ q' ∈ nw, q'.1 < q.1) (ha : a ∈ ex) : ∀ q ∈ a :: R, (q ∈ nx ∧ ∀ q' ∈ nw, q'.1 < q.1) ∨ q ∈ ex := fun q hq => by
  rcases List.mem_cons.mp hq with rfl | hq
  · exact .inr ha
  · exact .inl ⟨hs q hq, hf q hq⟩
end Mine
end
section
open PySem PySem.W PyProof.Rows PySem.Calls PySem.SeqAt PySem.MeetsSeq PySem.MeetsSeq3
set_option Elab.async false
set_option maxRecDepth 100000
set_option maxHeartbeats 8000000
namespace Mine
section
variable {w : World} {h₀ h : Heap} {L P : Addr} {R nw : Led} {ps : Array Value} {O : Rep} {v : Value}
theorem pr_mem (N : News h₀ L h nw) (hR : ∀ q ∈ R, q ∈ nw) (hm : (P, tabObj ps) ∈ nw) {a : Addr} {o : Obj} {x : String} (h1 : (a, o) ∈ R) (h2 : o.cls = .type x) : (a, o) ∈ drop1 P R := drop1_mem.mpr ⟨h1, ne_obj N (hR _ h1) hm (by rw [h2]; simp)⟩
theorem VIs.prune (N : News h₀ L h nw) (hR : ∀ q ∈ R, q ∈ nw) (hm : (P, tabObj ps) ∈ nw) (r : VIs R O v) : VIs (drop1 P R) O v := by
  cases r with
  | int n t => exact .int n t
  | nil l c h => exact .nil l c (pr_mem N hR hm h rfl)
  | two a b t t' l c h => exact .two a b t t' l c (pr_mem N hR hm h rfl)
theorem FIs.prune {f : FV} (N : News h₀ L h nw) (hR : ∀ q ∈ R, q ∈ nw) (hm : (P, tabObj ps) ∈ nw) (r : FIs R f v) : FIs (drop1 P R) f v := by
  cases r with
  | int n t => exact .int n t
  | str x t => exact .str x t
  | pair n x t t' l c h => exact .pair n x t t' l c (pr_mem N hR hm h rfl)
theorem Res.prune (N : News h₀ L h nw) (hR : ∀ q ∈ R, q ∈ nw) (hm : (P, tabObj ps) ∈ nw) (r : Res w R O v) : Res w (drop1 P R) O v := by
  cases r with
  | val v l h hl => exact .val v l (h.prune N hR hm) (pr_mem N hR hm hl rfl)
  | fault c s d o h1 h2 hd ho hm' => exact .fault c s d o (h1.prune N hR hm) (h2.prune N hR hm) hd ho (pr_mem N hR hm hm' (by obtain ⟨es, n, rfl, _, _⟩ := dict_shape ho; rfl))
theorem Ans.prune (N : News h₀ L h nw) (hR : ∀ q ∈ R, q ∈ nw) (hm : (P, tabObj ps) ∈ nw) (r : Ans w R O v) : Ans w (drop1 P R) O v := by
  cases r with
  | val v l n t h hl => exact .val v l n t (h.prune N hR hm) (pr_mem N hR hm hl rfl)
  | fault c s d o h1 h2 ho hm' => exact .fault c s d o (h1.prune N hR hm) (h2.prune N hR hm) ho (pr_mem N hR hm hm' (by obtain ⟨es, n, rfl, _, _⟩ := dict_shape ho; rfl))
end
/-- the single answers, as they stand when the calls are noted -/
def Singles (w : World) (xs : List Int) (lC lO : Addr) (nw : Led) (ys : List Value) : Prop := ∀ (j : Nat) (y : Value), ys[j]? = some y → ∃ R, (∀ q ∈ R, q ∈ nw ∧ q.1 ≠ lC ∧ q.1 ≠ lO ∧ q.1 ≠ 188 ∧ q.1 ≠ 195) ∧ Res w R (repAt xs j) y
theorem singles_of {w : World} {h₀ h : Heap} {L lH lC lO : Addr} {xs : List Int} {keep news nw : Led} {i : Nat} {ys : List Value} (N : News h₀ L h nw) (S : SInv w lH xs keep i ys news) (up : ∀ q ∈ news, q ∈ nw) (l1 : AllLt lC news) (l2 : AllLt lO news) (m8 : (188, tabObj #[]) ∈ nw) (m5 : (195, tabObj #[]) ∈ nw) : Singles w xs lC lO nw ys := fun j y e => by
  obtain ⟨R, h1, h2⟩ := S.2.2.2.2 j y e
  have hR : ∀ q ∈ R, q ∈ nw := fun q hq => up q (h1 q hq).1
  refine ⟨drop1 195 (drop1 188 R), fun q hq => ?_, (h2.prune N hR m8).prune N (fun q hq => hR q (drop1_mem.mp hq).1) m5⟩
  have h3 := drop1_mem.mp hq
  have h4 := drop1_mem.mp h3.1
  exact ⟨hR q h4.1, Nat.ne_of_lt (ktn_ltOf l1 q (h1 q h4.1).1), Nat.ne_of_lt (ktn_ltOf l2 q (h1 q h4.1).1), h4.2, h3.2⟩
theorem singles_in {w : World} {xs : List Int} {lC lO : Addr} {nw K : Led} {ys : List Value} (S : Singles w xs lC lO nw ys) (up : ∀ q ∈ nw, q.1 ≠ lC → q.1 ≠ lO → q.1 ≠ 188 → q.1 ≠ 195 → q ∈ K) : ∀ (j : Nat) (y : Value), ys[j]? = some y → Res w K (repAt xs j) y := fun j y e => by
  obtain ⟨R, h1, h2⟩ := S j y e
  exact h2.mono fun q hq => up q (h1 q hq).1 (h1 q hq).2.1 (h1 q hq).2.2.1 (h1 q hq).2.2.2.1 (h1 q hq).2.2.2.2
/-- between two reads: the table, and what stays -/
def RS (K : Led) (B : List Addr) (nw : Led) : Prop := ∃ ps T, (195, tabObj ps) ∈ nw ∧ TabS pos3 qual3 T ps ∧ (∀ q ∈ T, q ∈ nw ∧ q.1 ≠ 195 ∧ q.1 ∉ B) ∧ ∀ q ∈ K, q ∈ nw
theorem rs_start {K : Led} {B : List Addr} {nw : Led} (h : (195, tabObj #[]) ∈ nw) (hK : ∀ q ∈ K, q ∈ nw) : RS K B nw := ⟨#[], [], h, .empty rfl, (fun _ h => nomatch h), hK⟩
theorem rs_pre {w : World} {h₀ h : Heap} {L : Addr} {K nw : Led} {B : List Addr} (N : News h₀ L h nw) (hK5 : ∀ q ∈ K, q.1 ≠ 195) (S : RS K B nw) (hB : ∀ b ∈ B, ∃ o, (b, o) ∈ nw) : ∃ T nw', News h₀ L h nw' ∧ PreR pos3 qual3 195 K T nw' ∧ (∀ q ∈ nw, q ∈ nw') ∧
    ∀ {V : Value → Prop} {Y : XK → Prop} {v : Value} {nx : Led}, OutR w pos3 qual3 195 V Y T nw' v nx → RS K B nx ∧ (∀ q ∈ nw, q.1 ≠ 195 → q ∈ nx) ∧ ResR w nx V Y v := by
  obtain ⟨ps, T, m, hT, hTn, hK⟩ := S
  have up : ∀ q ∈ nw, q ∈ (195, tabObj ps) :: drop1 195 nw := fun q hq => by
    by_cases e : q.1 = 195
    · have e1 := (N _ hq).1; have e2 := (N _ m).1; dsimp only at e2; rw [e, e2] at e1
      obtain ⟨a, o⟩ := q
      cases Option.some.inj e1
      dsimp only at e
      subst e
      exact .head _
    · exact .tail _ (drop1_mem.mpr ⟨hq, e⟩)
  refine ⟨T, (195, tabObj ps) :: drop1 195 nw, news_sub N fun q hq => ?_, ⟨ps, _, rfl, fun q hq => (drop1_mem.mp hq).2, hT, fun q hq => drop1_mem.mpr ⟨(hTn q hq).1, (hTn q hq).2.1⟩, fun q hq => drop1_mem.mpr ⟨hK q hq, hK5 q hq⟩⟩, up, fun {V Y v nx} R => ?_⟩
  · rcases List.mem_cons.mp hq with rfl | hq
    · exact m
    · exact (drop1_mem.mp hq).1
  · obtain ⟨ps', h1, ⟨nt', h2, h3⟩, h4, h5⟩ := R
    have k : ∀ q ∈ nw, q.1 ≠ 195 → q ∈ nx := fun q hq hn => h4 q (up q hq) hn
    refine ⟨⟨ps', nt', h1, h2, fun q hq => ⟨(h3 q hq).1, ?_⟩, fun q hq => k q (hK q hq) (hK5 q hq)⟩, k, h5⟩
    rcases (h3 q hq).2 with z | z
    · exact ⟨(hTn q z).2.1, (hTn q z).2.2⟩
    · refine ⟨Nat.ne_of_gt (z _ (.head _)), fun hb => ?_⟩
      obtain ⟨o, ho⟩ := hB _ hb
      exact absurd (z _ (up _ ho)) (Nat.lt_irrefl _)
theorem rs_in {K nw : Led} {B : List Addr} {I : Addr} {o : Obj} (S : RS K B nw) (off : ∀ p ∈ nw, p.1 ≠ I) : RS K (I :: B) ((I, o) :: nw) := by
  obtain ⟨ps, T, m, hT, hTn, hK⟩ := S
  exact ⟨ps, T, .tail _ m, hT, fun q hq => ⟨.tail _ (hTn q hq).1, (hTn q hq).2.1, fun hb => by
    rcases List.mem_cons.mp hb with e | hb
    · exact off q (hTn q hq).1 e
    · exact (hTn q hq).2.2 hb⟩, fun q hq => .tail _ (hK q hq)⟩
theorem rs_off {K nw : Led} {B : List Addr} {I : Addr} (S : RS K (I :: B) nw) (h5 : I ≠ 195) (hK : ∀ q ∈ K, q.1 ≠ I) : RS K B (drop1 I nw) := by
  obtain ⟨ps, T, m, hT, hTn, hk⟩ := S
  exact ⟨ps, T, drop1_mem.mpr ⟨m, Ne.symm h5⟩, hT, fun q hq => ⟨drop1_mem.mpr ⟨(hTn q hq).1, fun e => (hTn q hq).2.2 (by rw [e]; exact .head _)⟩, (hTn q hq).2.1, fun hb => (hTn q hq).2.2 (.tail _ hb)⟩, fun q hq => drop1_mem.mpr ⟨hk q hq, hK q hq⟩⟩
theorem rs_sub {K K' nw nw2 : Led} {B : List Addr} (S : RS K B nw) (s : ∀ q ∈ nw, q ∈ nw2) (hK : ∀ q ∈ K', q ∈ nw2) : RS K' B nw2 := by
  obtain ⟨ps, T, m, hT, hTn, hk⟩ := S
  exact ⟨ps, T, s _ m, hT, fun q hq => ⟨s q (hTn q hq).1, (hTn q hq).2⟩, hK⟩
theorem resR_index {w : World} {nx : Led} {y : Value} (R : ResR w nx (fun _ => False) (fun x => x = .index) y) : ∃ t, y = .str "end" t := by
  cases R with
  | val v l h hl => exact h.elim
  | fault c s d o h => cases h
  | index t h => exact ⟨t, rfl⟩
  | value t tk h => cases h
theorem resR_value {w : World} {nx : Led} {y : Value} (R : ResR w nx (fun _ => False) (fun x => x = .value) y) : ∃ t tk, y = .ref t ∧ (t, tupOf #[.str unexpected tk]) ∈ nx := by
  cases R with
  | val v l h hl => exact h.elim
  | fault c s d o h => cases h
  | index t h => cases h
  | value t tk h ht => exact ⟨t, tk, rfl, ht⟩
section
variable {w : World} {nw : Led} {itA d lA : Addr} {tk : Tok} {as : Array Value} {n : Nat} {z : Int}
theorem read_end (h1 : (itA, instObj 112 d) ∈ nw) (h2 : (d, dictOf [⟨PyData.keyHash w.params "results", .str "results" tk, .ref lA⟩] 1) ∈ nw) (h3 : (lA, listOf as n) ∈ nw) (ho : z < -(as.size : Int) ∨ (as.size : Int) ≤ z) (hlo : -(2 ^ 63) ≤ z) (hhi : z < 2 ^ 63) : Reads4 w nw (.ref itA) z 2 (fun _ => False) (fun x => x = .index) :=
  reads_exc (step_exc (yields_out h3 ho hlo hhi) h1 h2)
theorem read_thing {a : Value} (h1 : (itA, instObj 112 d) ∈ nw) (h2 : (d, dictOf [⟨PyData.keyHash w.params "results", .str "results" tk, .ref lA⟩] 1) ∈ nw) (h3 : (lA, listOf as n) ∈ nw) (hz : At as z a) (ha : (∃ x t, a = .int x t) ∨ (∃ x t, a = .str x t) ∨ a = .none ∨ ∃ t vs, a = .ref t ∧ (t, tupOf vs) ∈ nw) : Reads4 w nw (.ref itA) z 2 (fun _ => False) (fun x => x = .value) := by
  have y := yields_list (w := w) h3 hz
  rcases ha with ⟨x, t, rfl⟩ | ⟨x, t, rfl⟩ | rfl | ⟨t, vs, rfl, ht⟩
  · exact reads_exc (step_int y h1 h2)
  · exact reads_exc (step_str y h1 h2)
  · exact reads_exc (step_none y h1 h2)
  · exact reads_exc (step_tuple y h1 h2 ht)
end
theorem handed_index : ∀ c s, (XK.fault c s) = .index → handedIn c = true ∧ handedIn s = true := fun _ _ h => nomatch h
theorem handed_value : ∀ c s, (XK.fault c s) = .value → handedIn c = true ∧ handedIn s = true := fun _ _ h => nomatch h
def Frm2 (m1 m : Str → Option Value) : Prop := ∃ v1 v2, m = fun (y : Str) => if y = "i" then v1 else if y = "k" then v2 else m1 y
theorem frm2_start {m1 : Str → Option Value} : Frm2 m1 m1 := ⟨m1 "i", m1 "k", funext fun y => by
  split
  · rename_i h; rw [h]
  · split
    · rename_i h; rw [h]
    · rfl⟩
theorem frm2_next {m1 : Str → Option Value} {a b c d : Option Value} : Frm2 m1 (fun (y : Str) => if y = "i" then a else (fun (y : Str) => if y = "k" then b else (fun (y : Str) => if y = "i" then c else if y = "k" then d else m1 y) y) y) := ⟨a, b, funext fun y => by
  by_cases h : y = "i"
  · simp [h]
  · by_cases h' : y = "k" <;> simp [h, h']⟩
def InInv (m1 : Str → Option Value) (K : Led) (B : List Addr) (_ : Nat) (m : Str → Option Value) (news : Led) : Prop := (∃ v, m = fun (y : Str) => if y = "i" then v else m1 y) ∧ RS K B news
def OuInv (m1 : Str → Option Value) (K : Led) (_ : Nat) (m : Str → Option Value) (news : Led) : Prop := Frm2 m1 m ∧ RS K [] news
theorem at_three {n j : Nat} (hj : j < n) (hn : n ≤ 1000) {t1 t2 t3 : Tok} {i : Nat} {v : Value} {z1 z2 z3 : Int} (e1 : z1 = j) (e2 : z2 = (n : Int) - 1 - j) (e3 : z3 = (j : Int) - n) (e : [Value.int z1 t1, .int z2 t2, .int z3 t3][i]? = some v) : ∃ z t p, v = .int z t ∧ p < n ∧ ∀ (us : List Value) (u : Value), us.length = n → us[p]? = some u → At us.toArray z u := by
  match i, e with
  | 0, e =>
    refine ⟨z1, t1, j, (Option.some.inj e).symm, hj, fun us u hu hp => ?_⟩
    have := at_front hp (by omega)
    rwa [show (0 : Int) + (j : Int) = z1 by omega] at this
  | 1, e =>
    refine ⟨z2, t2, n - 1 - j, (Option.some.inj e).symm, by omega, fun us u hu hp => ?_⟩
    have := at_front hp (by omega)
    rwa [show (0 : Int) + ((n - 1 - j : Nat) : Int) = z2 by omega] at this
  | 2, e =>
    refine ⟨z3, t3, j, (Option.some.inj e).symm, hj, fun us u hu hp => ?_⟩
    have := at_back hp (by omega)
    rwa [show (0 : Int) + (j : Int) - (us.toArray.size : Int) = z3 by simp only [List.size_toArray]; omega] at this
  | k + 3, e => exact absurd e (by simp)
/-- a loop over `enumerate` by an invariant -/
theorem enum_rest {prog : Program} {w : World} {A : Around} {E : Value → Shared → Prop} {h₀ : Heap} {env : Env} {target : PySem.Expr} {body : List Stmt} {Q : Flow → Shared → Prop} {s : Shared} {I J : Addr} {lp : Addr × Obj} (vs : List Itm) (Inv : Nat → (Str → Option Value) → Led → Prop) (mem : ∀ i m n, Inv i m n → lp ∈ n)
    (fin : ∀ m news h tk, Inv vs.length m news → Fr h₀ env.locals h m → News h₀ env.locals h news → Q .next { s with heap := h, toks := tk })
    (turn : ∀ (Q' : Flow → Shared → Prop) (s' : Shared) i m news a v h tk (o o' : Obj), vs[i]? = some a → a.Is v h → Inv i m news → (∀ p ∈ news, p.1 ≠ I) → (∀ p ∈ news, p.1 ≠ J) → Fr h₀ env.locals h m → News h₀ env.locals h ((I, o) :: (J, o') :: news) →
      wpAny (model prog w) A (assign target env v) (fun _ s₂ => wpAny (model prog w) A (execs body env) (UnrPostW h₀ env.locals { s' with heap := h, toks := tk } [(I, o), (J, o')] (fun m' n' => Inv (i + 1) m' n') Q') E s₂) E { s' with heap := h, toks := tk }) :
    ∀ (k i : Nat) (m : Str → Option Value) (news : Led), i + k = vs.length → Inv i m news → (∀ p ∈ news, p.1 ≠ I) → (∀ p ∈ news, p.1 ≠ J) → ItemsRest prog w A E h₀ env target body Q s [(I, "enumerate"), (J, "list_iterator")] [lp] (vs.drop i) m news
  | 0, i, m, news, e, hI, _, _ => by
    rw [show vs.drop i = [] from List.drop_eq_nil_of_le (by omega)]
    exact ItemsRest.zero fun h tk F N => fin m news h tk ((show i = vs.length by omega) ▸ hI) F N
  | k + 1, i, m, news, e, hI, ho, hj => by
    have hlt : i < vs.length := by omega
    rw [List.drop_eq_getElem_cons hlt]
    intro v h tk hv F
    refine AllObj.cons fun o _ => AllObj.cons fun o' _ => AllObj.nil fun N => ?_
    refine wpAny_mono (turn Q s i m news _ v h tk o o' (List.getElem?_eq_getElem hlt) hv hI ho hj F N) (fun _ s₂ z => wpAny_mono z (fun f s₃ z => postW_mono (fun m' n' of hh => ⟨⟨mem _ _ _ hh, trivial⟩, ?_⟩) z) fun _ _ z => z) fun _ _ z => z
    exact enum_rest vs Inv mem fin turn k (i + 1) m' n' (by omega) hh (fun p hp => of p hp _ (.head _)) fun p hp => of p hp _ (.tail _ (.head _))
theorem rs_keep {K nw : Led} {B : List Addr} (S : RS K B nw) {q : Addr × Obj} (h : q ∈ K) : q ∈ nw := by
  obtain ⟨_, _, _, _, _, hk⟩ := S
  exact hk q h
theorem rs_ne {K nw : Led} {B : List Addr} {I : Addr} (S : RS K B nw) (off : ∀ p ∈ nw, p.1 ≠ I) : I ≠ 195 := by
  obtain ⟨ps, _, m, _⟩ := S
  exact Ne.symm (off _ m)
noncomputable abbrev itDict (w : World) (tk : Tok) (lA : Addr) : Obj := dictOf [⟨PyData.keyHash w.params "results", .str "results" tk, .ref lA⟩] 1
/-- what stays while the answers are read -/
structure Reads (w : World) (xs : List Int) (itA d lA : Addr) (tk : Tok) (as : List Value) (n : Nat) (D1 : Addr) (ys : List Value) (K : Led) : Prop where
  it : (itA, instObj 112 d) ∈ K
  di : (d, itDict w tk lA) ∈ K
  la : (lA, listOf as.toArray n) ∈ K
  an : ∀ (j : Nat) (a : Value), as[j]? = some a → Ans w K (repAt xs j) a
  si : (D1, LCg.lst ys) ∈ K
  sn : ∀ (j : Nat) (y : Value), ys[j]? = some y → Res w K (repAt xs j) y
  k5 : ∀ q ∈ K, q.1 ≠ 195
theorem Reads.mono {w : World} {xs : List Int} {itA d lA : Addr} {tk : Tok} {as : List Value} {n : Nat} {D1 : Addr} {ys : List Value} {K K' : Led} (R : Reads w xs itA d lA tk as n D1 ys K) (s : ∀ q ∈ K, q ∈ K') (k5 : ∀ q ∈ K', q.1 ≠ 195) : Reads w xs itA d lA tk as n D1 ys K' :=
  ⟨s _ R.it, s _ R.di, s _ R.la, fun j a e => (R.an j a e).mono s, s _ R.si, fun j y e => (R.sn j y e).mono s, k5⟩
theorem open_it {w : World} {xs : List Int} {h₀ h : Heap} {L x d lA lC lO D1 : Addr} {tk : Tok} {news nw0 : Led} {as ys : List Value} {n : Nat} {P : Addr × Obj → Prop} (N : News h₀ L h ((x, instObj 112 d) :: (d, itDict w tk lA) :: news)) (m5 : (195, tabObj #[]) ∈ news) (mA : (lA, listOf as.toArray n) ∈ news)
    (hold : ∀ (j : Nat) (y : Value), as[j]? = some y → ∃ R, (∀ q ∈ R, q ∈ news ∧ P q) ∧ Ans w R (repAt xs j) y) (sing : Singles w xs lC lO nw0 ys) (toK : ∀ q ∈ nw0, q.1 ≠ lC → q.1 ≠ lO → q.1 ≠ 188 → q ∈ news) (mS : (D1, LCg.lst ys) ∈ news) :
    ∃ nw K, News h₀ L h nw ∧ Reads w xs x d lA tk as n D1 ys K ∧ RS K [] nw ∧ (∀ q ∈ news, q.1 ≠ 195 → q ∈ K) := by
  have m5' : (195, tabObj #[]) ∈ (x, instObj 112 d) :: (d, itDict w tk lA) :: news := .tail _ (.tail _ m5)
  have toD : ∀ {q : Addr × Obj}, q ∈ (x, instObj 112 d) :: (d, itDict w tk lA) :: news → q.2.cls ≠ Value.none → q ∈ drop1 195 ((x, instObj 112 d) :: (d, itDict w tk lA) :: news) := fun h1 h2 => drop1_mem.mpr ⟨h1, ne_obj N h1 m5' h2⟩
  refine ⟨_, drop1 195 ((x, instObj 112 d) :: (d, itDict w tk lA) :: news), N, ⟨toD (.head _) (by simp), toD (.tail _ (.head _)) (by simp), toD (.tail _ (.tail _ mA)) (by simp), fun j a e => ?_, toD (.tail _ (.tail _ mS)) (by simp), singles_in sing fun q a b c d' e => drop1_mem.mpr ⟨.tail _ (.tail _ (toK q a b c d')), e⟩, fun q hq => (drop1_mem.mp hq).2⟩, rs_start m5' fun q hq => (drop1_mem.mp hq).1, fun q hq hn => drop1_mem.mpr ⟨.tail _ (.tail _ hq), hn⟩⟩
  obtain ⟨R, h1, h2⟩ := hold j a e
  exact (h2.prune N (fun q hq => .tail _ (.tail _ (h1 q hq).1)) m5').mono fun q hq => drop1_mem.mpr ⟨.tail _ (.tail _ (h1 q (drop1_mem.mp hq).1).1), (drop1_mem.mp hq).2⟩
theorem open_in {h₀ h : Heap} {L lL I : Addr} {oL it : Obj} {K news : Led} (N : News h₀ L h ((lL, oL) :: (I, it) :: news)) (S : RS K [] news) (hK5 : ∀ q ∈ K, q.1 ≠ 195) (off : ∀ p ∈ news, p.1 ≠ I) (l : @LT.lt Nat _ I lL ∧ AllLt lL news) :
    ∃ nw K', News h₀ L h nw ∧ RS K' [I] nw ∧ (lL, oL) ∈ K' ∧ (I, it) ∈ K' ∧ (∀ q ∈ K, q ∈ K') ∧ ∀ q ∈ K', q.1 ≠ 195 := by
  have n5 : lL ≠ 195 := by
    obtain ⟨_, _, m, _⟩ := S
    exact Nat.ne_of_gt (ktn_ltOf l.2 _ m)
  refine ⟨_, drop1 195 ((lL, oL) :: (I, it) :: news), N, rs_sub (rs_in S off) (fun q hq => .tail _ hq) fun q hq => (drop1_mem.mp hq).1, drop1_mem.mpr ⟨.head _, n5⟩, drop1_mem.mpr ⟨.tail _ (.head _), rs_ne S off⟩, fun q hq => drop1_mem.mpr ⟨.tail _ (.tail _ (rs_keep S hq)), hK5 q hq⟩, fun q hq => (drop1_mem.mp hq).2⟩
theorem has_two {a b : Addr} {oa ob : Obj} {news : Led} (h : (b, ob) ∈ news) : ∀ c ∈ [a, b], ∃ o, (c, o) ∈ (a, oa) :: news := fun c hc => by
  rcases List.mem_cons.mp hc with rfl | hc
  · exact ⟨_, .head _⟩
  · rw [List.mem_singleton.mp hc]; exact ⟨_, .tail _ h⟩
theorem some_at {ys : List Value} {p n : Nat} (h : p < n) (e : ys.length = n) : ∃ y, ys[p]? = some y := ⟨_, List.getElem?_eq_getElem (by omega)⟩
theorem rs_avoid {K nw : Led} {B : List Addr} {h₀ h : Heap} {L a : Addr} {as : Array Value} {n : Nat} (N : News h₀ L h nw) (S : RS K B nw) (hm : (a, listOf as n) ∈ nw) : RS K (a :: B) nw := by
  obtain ⟨ps, T, m, hT, hTn, hk⟩ := S
  cases hT with
  | empty e => exact ⟨ps, [], m, .empty e, (fun _ h => nomatch h), hk⟩
  | full c' oc vs t e hm' hd hv =>
    refine ⟨ps, [(c', oc)], m, .full c' oc vs t e (.head _) hd hv, fun q hq => ?_, hk⟩
    rw [List.mem_singleton.mp hq]
    refine ⟨(hTn _ hm').1, (hTn _ hm').2.1, fun hb => ?_⟩
    rcases List.mem_cons.mp hb with e | hb
    · exact ne_data N (hTn _ hm').1 hm (by rw [hd]; exact fun e => nomatch e) e
    · exact (hTn _ hm').2.2 hb
theorem rs_upd {K nw nw2 : Led} {B : List Addr} {a : Addr} (S : RS K B nw) (ha : a ∈ B) (h5 : a ≠ 195) (hK : ∀ q ∈ K, q.1 ≠ a) (up : ∀ q ∈ nw, q.1 ≠ a → q ∈ nw2) : RS K B nw2 := by
  obtain ⟨ps, T, m, hT, hTn, hk⟩ := S
  exact ⟨ps, T, up _ m (Ne.symm h5), hT, fun q hq => ⟨up q (hTn q hq).1 fun e => (hTn q hq).2.2 (by rw [e]; exact ha), (hTn q hq).2⟩, fun q hq => up q (hk q hq) (hK q hq)⟩
def Frm2T (m1 m : Str → Option Value) : Prop := ∃ v1 v2, m = fun (y : Str) => if y = "thing" then v1 else if y = "k" then v2 else m1 y
theorem frm2T_start {m1 : Str → Option Value} : Frm2T m1 m1 := ⟨m1 "thing", m1 "k", funext fun y => by
  split
  · rename_i h; rw [h]
  · split
    · rename_i h; rw [h]
    · rfl⟩
theorem frm2T_next {m1 : Str → Option Value} {a b c d : Option Value} : Frm2T m1 (fun (y : Str) => if y = "thing" then a else (fun (y : Str) => if y = "k" then b else (fun (y : Str) => if y = "thing" then c else if y = "k" then d else m1 y) y) y) := ⟨a, b, funext fun y => by
  by_cases h : y = "thing"
  · simp [h]
  · by_cases h' : y = "k" <;> simp [h, h']⟩
/-- the last loop: a thing is put behind the answers, and read -/
def EInv (m1 : Str → Option Value) (lA : Addr) (K : Led) (n0 : Nat) (i : Nat) (m : Str → Option Value) (news : Led) : Prop := Frm2T m1 m ∧ (∃ (as : List Value) (n : Nat), (lA, listOf as.toArray n) ∈ news ∧ as.length = n0 + i) ∧ RS K [lA] news
theorem open_en {w : World} {xs : List Int} {h₀ h : Heap} {L itA d lA D1 lE T0 : Addr} {tk : Tok} {as ys : List Value} {n : Nat} {oE oT : Obj} {K nx : Led} (N : News h₀ L h ((lE, oE) :: (T0, oT) :: nx)) (S : RS K [] nx) (R : Reads w xs itA d lA tk as n D1 ys K) (l : @LT.lt Nat _ T0 lE ∧ AllLt lE nx) (lT : ∀ p ∈ nx, p.1 < T0) :
    ∃ nw K', News h₀ L h nw ∧ (lE, oE) ∈ K' ∧ (T0, oT) ∈ K' ∧ (itA, instObj 112 d) ∈ K' ∧ (d, itDict w tk lA) ∈ K' ∧ (lA, listOf as.toArray n) ∈ nw ∧ RS K' [lA] nw ∧ (∀ q ∈ K', q.1 ≠ 195) ∧ (∀ q ∈ K', q.1 ≠ lA) ∧ (∀ q ∈ K, q.1 ≠ lA → q ∈ K') ∧ lA ≠ 195 := by
  have mA := rs_keep S R.la
  have nA5 := R.k5 _ R.la
  have m5 : ∃ ps, (195, tabObj ps) ∈ nx := by
    obtain ⟨ps, _, m, _⟩ := S
    exact ⟨ps, m⟩
  obtain ⟨ps, m5⟩ := m5
  have up : ∀ q ∈ nx, q ∈ (lE, oE) :: (T0, oT) :: nx := fun q hq => .tail _ (.tail _ hq)
  have nE := Nat.ne_of_gt (ktn_ltOf l.2 _ mA)
  have nE5 := Nat.ne_of_gt (ktn_ltOf l.2 _ m5)
  have nT := Nat.ne_of_gt (lT _ mA)
  have nT5 := Nat.ne_of_gt (lT _ m5)
  have upK : ∀ q ∈ K, q.1 ≠ lA → q ∈ drop1 lA (drop1 195 ((lE, oE) :: (T0, oT) :: nx)) := fun q hq hn => drop1_mem.mpr ⟨drop1_mem.mpr ⟨up q (rs_keep S hq), R.k5 q hq⟩, hn⟩
  refine ⟨_, drop1 lA (drop1 195 ((lE, oE) :: (T0, oT) :: nx)), N, drop1_mem.mpr ⟨drop1_mem.mpr ⟨.head _, nE5⟩, nE⟩, drop1_mem.mpr ⟨drop1_mem.mpr ⟨.tail _ (.head _), nT5⟩, nT⟩, upK _ R.it (ne_obj N (up _ (rs_keep S R.it)) (up _ mA) (by simp)), upK _ R.di (ne_obj N (up _ (rs_keep S R.di)) (up _ mA) (by simp)), up _ mA, rs_avoid N (rs_sub S up fun q hq => (drop1_mem.mp (drop1_mem.mp hq).1).1) (up _ mA), fun q hq => (drop1_mem.mp (drop1_mem.mp hq).1).2, fun q hq => (drop1_mem.mp hq).2, upK, nA5⟩
theorem endW2 {h₀ h' : Heap} {L I J : Addr} {o o' : Obj} {rest : (Str → Option Value) → Led → Prop} {s₁ : Shared} {tk : Nat} {m' : Str → Option Value} {all : Led} (F : Fr h₀ L h' m') (N : News h₀ L h' all) (hI : (I, o) ∈ all) (hJ : (J, o') ∈ all) (r : rest m' (drop1 J (drop1 I all))) : UnrEndW h₀ L s₁ [(I, o), (J, o')] rest { s₁ with heap := h', toks := tk } :=
  ⟨h', tk, m', drop1 J (drop1 I all), rfl, F, fun p hp => by
    rcases List.mem_cons.mp hp with rfl | hp
    · exact N _ hI
    · rcases List.mem_cons.mp hp with rfl | hp
      · exact N _ hJ
      · exact N _ (drop1_mem.mp (drop1_mem.mp hp).1).1, fun p hp q hq => by
    have h1 := drop1_mem.mp hp
    rcases List.mem_cons.mp hq with rfl | hq
    · exact (drop1_mem.mp h1.1).2
    · rw [List.mem_singleton.mp hq]; exact h1.2, r⟩
theorem things_at {T0 : Addr} {vs : Array Value} {t1 t2 : Tok} {x : Str} {z : Int} {K : Led} (hT : (T0, tupOf vs) ∈ K) {i : Nat} {v : Value} (e : [Value.ref T0, .str x t1, .int z t2, .none][i]? = some v) : i < 4 ∧ ((∃ x t, v = .int x t) ∨ (∃ x t, v = .str x t) ∨ v = .none ∨ ∃ t vs, v = .ref t ∧ (t, tupOf vs) ∈ K) := by
  match i, e with
  | 0, e => exact ⟨by decide, .inr (.inr (.inr ⟨_, _, (Option.some.inj e).symm, hT⟩))⟩
  | 1, e => exact ⟨by decide, .inr (.inl ⟨_, _, (Option.some.inj e).symm⟩)⟩
  | 2, e => exact ⟨by decide, .inl ⟨_, _, (Option.some.inj e).symm⟩⟩
  | 3, e => exact ⟨by decide, .inr (.inr (.inl (Option.some.inj e).symm))⟩
  | k + 4, e => exact absurd e (by simp)
theorem enum_item {vs : List Value} {i : Nat} {a : Itm} {v : Value} {h : Heap} (e : (enumItems 0 vs)[i]? = some a) (hv : a.Is v h) : ∃ x T t, vs[i]? = some x ∧ v = .ref T ∧ IsTup h T #[.int ((0 + i : Nat) : Int) t, x] := by
  have hl : i < vs.length := by
    have := (List.getElem?_eq_some_iff.mp e).1
    rwa [enumItems_length] at this
  have g := enumItems_get vs 0 i (v := vs[i]) (List.getElem?_eq_getElem hl)
  rw [g] at e
  obtain rfl := Option.some.inj e
  obtain ⟨T, t, e1, e2⟩ := hv
  exact ⟨vs[i], T, t, List.getElem?_eq_getElem hl, e1, e2⟩
theorem at_last {as : List Value} {x : Value} {z : Int} (e : z = as.length) (hl : as.length ≤ 1000) : At (as ++ [x]).toArray z x := by
  subst e
  refine .inl ⟨by omega, by omega, ?_⟩
  simp
theorem has_3 {a b c : Addr} {oa ob oc : Obj} {nw : Led} (h1 : (a, oa) ∈ nw) (h2 : (b, ob) ∈ nw) (h3 : (c, oc) ∈ nw) : ∀ d ∈ [a, b, c], ∃ o, (d, o) ∈ nw := fun d hd => by
  rcases List.mem_cons.mp hd with rfl | hd
  · exact ⟨_, h1⟩
  rcases List.mem_cons.mp hd with rfl | hd
  · exact ⟨_, h2⟩
  · rw [List.mem_singleton.mp hd]; exact ⟨_, h3⟩
theorem off_cons2 {I J : Addr} {o : Obj} {l : Led} (h1 : J ≠ I) (h : ∀ p ∈ l, p.1 ≠ I) : ∀ p ∈ (J, o) :: l, p.1 ≠ I := fun p hp => by
  rcases List.mem_cons.mp hp with rfl | hp
  · exact h1
  · exact h p hp
/-- the state of the last loop once a thing is put behind -/
theorem rs_put {K news : Led} {lA I J : Addr} {o o' : Obj} {as : List Value} {n k : Nat} {x : Value} (S : RS K [lA] news) (offI : ∀ p ∈ news, p.1 ≠ I) (offJ : ∀ p ∈ news, p.1 ≠ J) (hJI : J ≠ I) (mA : (lA, listOf as.toArray n) ∈ news) (hA5 : lA ≠ 195) (hKA : ∀ q ∈ K, q.1 ≠ lA) :
    RS ((lA, listOf (as ++ [x]).toArray k) :: K) [I, J, lA] ((lA, listOf (as ++ [x]).toArray k) :: drop1 lA ((I, o) :: (J, o') :: news)) ∧ (∀ d ∈ [I, J, lA], ∃ ob, (d, ob) ∈ (lA, listOf (as ++ [x]).toArray k) :: drop1 lA ((I, o) :: (J, o') :: news)) ∧ (I, o) ∈ (lA, listOf (as ++ [x]).toArray k) :: drop1 lA ((I, o) :: (J, o') :: news) ∧ (J, o') ∈ (lA, listOf (as ++ [x]).toArray k) :: drop1 lA ((I, o) :: (J, o') :: news) := by
  have mI : (I, o) ∈ (lA, listOf (as ++ [x]).toArray k) :: drop1 lA ((I, o) :: (J, o') :: news) := .tail _ (drop1_mem.mpr ⟨.head _, Ne.symm (offI _ mA)⟩)
  have mJ : (J, o') ∈ (lA, listOf (as ++ [x]).toArray k) :: drop1 lA ((I, o) :: (J, o') :: news) := .tail _ (drop1_mem.mpr ⟨.tail _ (.head _), Ne.symm (offJ _ mA)⟩)
  have S1 := rs_upd (nw2 := (lA, listOf (as ++ [x]).toArray k) :: drop1 lA ((I, o) :: (J, o') :: news)) (rs_in (rs_in S offJ) (off_cons2 (o := o') hJI offI)) (.tail _ (.tail _ (.head _))) hA5 hKA fun q hq hn => .tail _ (drop1_mem.mpr ⟨hq, hn⟩)
  refine ⟨rs_sub S1 (fun q hq => hq) fun q hq => ?_, has_3 mI mJ (.head _), mI, mJ⟩
  rcases List.mem_cons.mp hq with rfl | hq
  · exact .head _
  · exact rs_keep S1 hq
theorem ne5_cons {K : Led} {a : Addr} {o : Obj} (h : a ≠ 195) (hK : ∀ q ∈ K, q.1 ≠ 195) : ∀ q ∈ (a, o) :: K, q.1 ≠ 195 := fun q hq => by
  rcases List.mem_cons.mp hq with rfl | hq
  · exact h
  · exact hK q hq
theorem einv_next {m1 m' : Str → Option Value} {K K' nx news : Led} {lA I J : Addr} {a : Addr × Obj} {oA : Obj} {as : List Value} {n n0 i : Nat} (hm : Frm2T m1 m') (S : RS K' [I, J, lA] nx) (hKK : ∀ q ∈ K, q ∈ K') (S0 : RS K [lA] news) (offI : ∀ p ∈ news, p.1 ≠ I) (offJ : ∀ p ∈ news, p.1 ≠ J) (mA0 : (lA, oA) ∈ news) (mA : (lA, listOf as.toArray n) ∈ nx) (hl : as.length = n0 + i) :
    EInv m1 lA K n0 i m' (drop1 J (drop1 I (a :: nx))) := by
  refine ⟨hm, ⟨as, n, drop1_mem.mpr ⟨drop1_mem.mpr ⟨.tail _ mA, offI (lA, oA) mA0⟩, offJ (lA, oA) mA0⟩, hl⟩, ?_⟩
  exact rs_off (rs_off (rs_sub S (fun q hq => .tail _ hq) fun q hq => .tail _ (rs_keep S (hKK q hq))) (rs_ne S0 offI) fun q hq => offI q (rs_keep S0 hq)) (rs_ne S0 offJ) fun q hq => offJ q (rs_keep S0 hq)
/-- the same as `IntsAre`, out of the walk's sight -/
def IntsKept (vs : List Value) (ns : List Int) : Prop := IntsAre vs ns
theorem unexp_ne {A : Around} {s : Shared} {h₀ : Heap} {L a b : Addr} {t u : Tok} {nw : Led} (N : News h₀ L s.heap nw) (h1 : (a, tupOf #[.str unexpected t]) ∈ nw) (h2 : (b, tupOf #[.str unexpected u]) ∈ nw) (hu : A.units < cLine) : RcNeAt A s (.ref a) (.ref b) false := ne_tuples (tup_of N h1) (tup_of N h2) rfl hu (one_eq (at_str _ _ _))
theorem hide_QE {α : Type} {M : Model} {A : Around} {t : Sem α} {Q0 : α → Shared → Prop} {E0 : Value → Shared → Prop} {s : Shared} (h : ∀ Q : α → Shared → Prop, (∀ v s, Q0 v s → Q v s) → wpAny M A t Q (fun _ _ => False) s) : wpAny M A t Q0 E0 s := wpAny_mono (h Q0 fun _ _ x => x) (fun _ _ x => x) (fun _ _ f => f.elim)
end Mine
end
section
open PySem PySem.W PyProof.Rows PySem.Calls PySem.SeqAt
set_option Elab.async false
set_option maxRecDepth 100000
set_option maxHeartbeats 20000000
namespace Mine
theorem cell_seq {o : Obj} {v : Option Value} (h : o.data = .cell v) : o.data ≠ .seq #[] 0 := by rw [h]; simp
theorem cell_fields {o : Obj} {v : Option Value} (h : o.data = .cell v) : o.data ≠ .fields #[] := by rw [h]; simp
theorem ne_empty {ws : List Value} {n k : Nat} (h : 0 < ws.length) : (W.listOf ws.toArray n).data ≠ (W.listOf #[] k).data := fun e => by
  have e2 : ws.toArray = #[] := by injection e
  have := congrArg Array.size e2
  simp at this
  rw [this] at h
  exact absurd h (by decide)
theorem hide_src {α : Type} {M : Model} {A : Around} {t : Sem α} {P : α → Shared → Prop} {E : Value → Shared → Prop} {s : Shared} (h : wpAny M A t (fun v s => Hide (P v s)) E s) : wpAny M A t P E s := h
local macro_rules | `(tactic| walk_at "eval Name") => `(tactic| (k_here; (with_reducible show wpAny _ _ (eval (Expr.Name _ _) (compEnvC _ _ _ _)) _ _ _); k_dflt (refine' lcf_cell ?N ?c ?m ?d ?_ ?a ?b; (case a => rfl); (case b => rfl); (case N => k_asm); (case c => rfl); (case m => (repeat (first | with_reducible assumption | with_reducible exact List.mem_cons_self .. | with_reducible refine List.mem_cons_of_mem _ ?_))); (case d => k_asm); k_whole)))
local macro_rules | `(tactic| walk_at "eval Name") => `(tactic| (k_here; (with_reducible show wpAny _ _ (eval (Expr.Name (PySem.Str.ofString "heap") _) (envOfC _ _ _ _ _)) _ _ _); k_dflt (refine' nameX_C ?N ?c ?m ?d ?_ ?a ?b; (case a => rfl); (case b => rfl); (case N => k_asm); (case c => rfl); (case m => (repeat (first | with_reducible assumption | with_reducible exact List.mem_cons_self .. | with_reducible refine List.mem_cons_of_mem _ ?_))); (case d => k_asm); k_whole)))
theorem whole : PySem.Challenge.rw_kn0109_04.Holds := hdk (by
  refine (?_ : WalkO _ _ _ kG.says _ _ _ _)
  unfold kG
  k_go0
  (all_goals try k_fold)
  refine hide_QE (fun QL hQL => ?_)
  rename Fr _ _ _ _ => FZ0
  refine (let mZ : Str → Option Value := _; have FZ : Fr _ _ _ mZ := FZ0; ?_)
  clear FZ0
  (repeat' (first
    | (k_unfold; (try dsimp only)) | (k_end; wrow_close)
    | ((with_reducible show wpAny _ _ (call (Value.type "enumerate") _ _) _ _ _); with_reducible (k_here; refine unhide ?_))
    | (with_reducible (k_here; (with_reducible show wpAny _ _ (getMethod (Value.ref _) (PySem.Str.ofString "append") _) _ _ _); k_dflt (refine' kl_method ?N ?m PySem.F.slot_list_append PySem.F.type_list_append ?_; (case N => k_asm); (case m => (repeat (first | with_reducible assumption | with_reducible exact List.mem_cons_self .. | with_reducible refine List.mem_cons_of_mem _ ?_))))))
    | ((with_reducible show wpAny _ _ (compareOp CmpOp.Eq (Value.ref _) (Value.ref _)) _ _ _); with_reducible (k_here; refine unhide ?_))
    | ((with_reducible show wpAny _ _ (compareOp CmpOp.NotEq (Value.ref _) (Value.ref _)) _ _ _); with_reducible (k_here; refine unhide ?_))
    | ((with_reducible show wpAny _ _ (subscriptTail (Expr.Name _ _) (Expr.Name _ _) (Value.ref _) (Value.int _ _)) _ _ _); with_reducible (k_here; refine unhide ?_))
    | ((with_reducible show wpAny _ _ (exec (Stmt.For (Expr.Name _ _) (Expr.List _ _) (_ :: _) [] _) _) _ _ _); with_reducible (k_here; (rename Fr _ _ _ _ => lF'); (with_unfolding_all refine' For_turns lF' ?_; k_whole)))
    | (with_reducible (k_here; (with_reducible show wpAny _ _ (call (Value.ref 200) _ _) _ _ _); refine unhide ?_))
    | (with_reducible (k_here; (with_reducible show wpAny _ _ (call (Value.builtin "len") [Value.ref _]) _ _ _); k_dflt (refine' len_any ?k0 ?k1 ?k2 ?_; (case k0 => k_asm); (case k1 => (repeat (first | with_reducible assumption | with_reducible exact List.mem_cons_self .. | with_reducible refine List.mem_cons_of_mem _ ?_))); (case k2 => (simp only [List.size_toArray]; omega)); k_whole)))
    | ((with_reducible show wpAny _ _ (call (Value.builtin "list.append") _ _) _ _ _); with_reducible (k_here; refine unhide ?_))
    | ((with_reducible show wpAny _ _ (binaryOp Operator.Add (Value.ref _) (Value.ref _)) _ _ _); with_reducible (k_here; (with_reducible rename LoopTwo => lT'); refine unhide ?_))
    | ((with_reducible show wpAny _ _ (call (Value.builtin "isinstance") _ _) _ _ _); with_reducible (k_here; refine unhide ?_))
    | (with_reducible (k_here; (with_reducible show wpAny _ _ (call (Value.ref 193) _ _) _ _ _); refine unhide ?_))
    | (with_reducible (k_here; (with_reducible show wpAny _ _ (call (Value.ref 172) _ _) _ _ _); refine unhide ?_))
    | (with_reducible (k_here; (with_reducible show wpAny _ _ (call (Value.ref 165) _ _) _ _ _); refine unhide ?_))
    | (with_reducible (k_here; (with_reducible show wpAny _ _ (pyIter (Value.ref _)) _ _ _); refine unhide ?_))
    | ((with_reducible show wpAny _ _ (exec (Stmt.For (Expr.Tuple _ _ _) (Expr.Name _ _) (_ :: _) [] _) _) _ _ _); with_reducible (k_here; (rename Fr _ _ _ _ => lF'); (with_unfolding_all refine' For_turns lF' ?_; k_whole)))
    | ((with_reducible show wpAny _ _ (exec (Stmt.For (Expr.Name _ _) (Expr.Name _ _) (_ :: _) [] _) _) _ _ _); with_reducible (k_here; (rename Fr _ _ _ _ => lF'); (with_unfolding_all refine' For_turns lF' ?_; k_whole)))
    | ((with_reducible show wpAny _ _ (eval (Expr.ListComp _ _ _ _) _) _ _ _); with_reducible (k_here; k_dflt (refine LCg.ListComp_U (F₀ := by k_asm) (by rfl) (by decide) (by rfl) (by decide) (by rfl) (hide_src ?_))))
    | (with_reducible (k_here; (with_reducible show wpAny _ _ (call (Value.ref 186) _ _) _ _ _); refine unhide ?_))
    | ((with_reducible show wpAny _ _ (exec (Stmt.Assign [_] (Expr.ListComp _ _ _ _) _) _) _ _ _); with_reducible (k_here; k_dflt (refine LCg.Assign_ListComp_U (F₀ := by k_asm) (by rfl) (by with_unfolding_all rfl) (by rfl) (by decide) (by rfl) (by decide) (by rfl) (by rfl) (by rfl) (hide_src ?_))))
    | ((with_reducible show wpAny _ _ (leaving _ (Value.ref _)) _ _ _); with_reducible (k_here; k_dflt (first | (refine' leave_madeP ?k1 (Heap.MadeExc.of (by assumption)) ?k2 ?k3 ?_ ?k6 ?k5; (case k6 => exact rfl); (case k2 => assumption); (case k1 => assumption); (case k3 => k_asm); (case k5 => exact rfl); k_whole; intro h' t' R' U'; (try dsimp only at U' ⊢)) | (refine' leave_indexP ?k1 ?k0 ?k2 ?k3 ?_ ?k6 ?k5; (case k6 => exact rfl); (case k0 => assumption); (case k2 => assumption); (case k1 => assumption); (case k3 => k_asm); (case k5 => exact rfl); k_whole; intro h' R' U'; (try dsimp only at U' ⊢)) | (refine' leave_faultP ?k1 ?k0 ?k2 ?k3 ?_ ?k6 ?k5; (case k6 => exact rfl); (case k0 => assumption); (case k2 => assumption); (case k1 => assumption); (case k3 => k_asm); (case k5 => exact rfl); k_whole; intro h' t' dx' t1' t2' R' U'; (try dsimp only at U' ⊢)) | (refine' leaveOnP rfl ?k0 ?k1 ?k2 ?k3 ?k4 ?_; (case k3 => assumption); (case k0 => exact XIs.still (by assumption)); (case k1 => assumption); (case k2 => assumption); (case k4 => assumption); k_whole; intro h' R' U'; (try dsimp only at U' ⊢)))))
    | (with_reducible (k_here; (with_reducible show wpAny _ _ (call (Value.ref _) _ _) _ _ _); (with_reducible rename Does _ _ _ _ _ _ _ _ _ => hS); k_dflt (refine' hS _ _ _ _ _ _ _ _ _ _ _ _ _ _ _ _ _ _ _ _ _ _ _ _ _ _ ?B ?F ?X ?N ?T ?hk ?hd ?hu ?hn ?hI ?U ?_ ?_; (case B => k_asm); (case F => k_asm); (case X => k_asm); (case N => k_asm); (case T => k_asm); (case hk => exact rfl); (case hd => ((try dsimp only [ktrTop, Around.in1, Around.deeper]); omega)); (case hu => ((try dsimp only [ktrTop, Around.in1, Around.deeper]); omega)); (case hn => assumption); (case hI => assumption); (case U => assumption)); (try clear hS)))
    | walk1 | (dsimp only; walk1) | (leave1; (try dsimp only))))
  unfold Hide
  rename World => w9
  rename List Value => ws9
  rename IntsAre ws9 _ => hI9
  have hl9 := hI9.length
  obtain ⟨xs9, hI9, hx4, hx67⟩ : ∃ xs, IntsAre ws9 xs ∧ 4 ≤ xs.length ∧ xs.length ≤ 67 := ⟨_, hI9, by simp, by simp; omega⟩
  have hl9 := hI9.length
  rename News _ _ _ _ => N9
  rename _ = Data.fields _ => dC1
  rename _ = some (Value.str _ _) => dC2
  obtain ⟨nw9, N9, mX, mD, mF, mC, mH, mN, mcH, mcM, m195, m188, m181, m202⟩ := open13 N9
  rename Heap.CodeRec _ _ _ => hcd9
  clear hcd9
  refine Exists.elim (start_of (w := w9) (nwS := [_, _, _, _, _]) mH mN m181 m188 m195 (still4_of N9 mH m181 m188 m195 mX (by simp) (by simp) (still4_of N9 mH m181 m188 m195 mD (by simp) (by simp) (still4_of N9 mH m181 m188 m195 mF (by simp) (by simp) (still4_of N9 mH m181 m188 m195 mC (by rw [dC1]; simp) (by rw [dC1]; rintro e; cases e; simp at dC2) (still4_of N9 mH m181 m188 m195 mcH ?d1 ?d2 still4_nil))))) (fun x tx ns hl => call_ans (.head _) (.tail _ (.head _)) (.tail _ (.tail _ (.head _))) hl ?send)) ?rest
  case d1 => exact cell_seq (by assumption)
  case d2 => exact cell_fields (by assumption)
  case send =>
    intro name P hP tup tn its hi
    have hD := hP its hi tup tn
    clear hP
    unfold Does
    k_fill
    intro dp2 un2 gd2 cn2 cs2 a2 ccd2 cl2 outer2 A2 base2 h02 L2 m2 s2 Q2 E2 p2 loose2 mean2 mg2 mb2 nw2 g2 vs2 n2 B2 F2 X2 N2 T2 hk2 hd2 hu2 hn2 hI2 U2 postE2 post2
    have q0 := hn2 _ (.head _)
    have q1 := hn2 _ (.tail _ (.tail _ (.tail _ (.head _))))
    have q2 := hn2 _ (.tail _ (.tail _ (.tail _ (.tail _ (.head _)))))
    have q3 := hn2 _ (.tail _ (.tail _ (.tail _ (.tail _ (.tail _ (.head _))))))
    have qs : ∀ q ∈ [(tup, tupOf its)], q ∈ nw2 := fun q hq => by rw [List.mem_singleton.mp hq]; exact q0
    refine wpAny_call ?_
    refine' kla_code ?k1 ?k2 ?k3 ?k4 ?k5 ?kA ?kF ?kK ?k6 ?k7 ?k8 ?k9 ?kB ?_ ?c2 ?c3 ?c4 ?c5
    (case kA => exact rfl)
    (case kF => exact rfl)
    (case kK => exact hk2)
    (case k1 => exact B2)
    (case k2 => exact F2)
    (case k3 => exact X2)
    (case k4 => exact N2)
    (case k5 => exact T2)
    (case k6 => exact q1)
    (case k7 => exact codeRec_news N2 q2 dC1 dC2)
    (case k8 => k_room)
    (case k9 => exact rfl)
    (case c5 => decide)
    (case kB => exact locs rfl)
    (case c2 => exact rfl)
    (case c3 => exact rfl)
    (case c4 => exact rfl)
    intro g4 L4 h4 FG4 F4 N4 B4 X4 T4
    (try dsimp only)
    (repeat' (first
      | (k_unfold; (try dsimp only)) | (k_end; wrow_close)
      | ((with_reducible show wpAny _ _ (call (Value.type "enumerate") _ _) _ _ _); with_reducible (k_here; refine unhide ?_))
      | (with_reducible (k_here; (with_reducible show wpAny _ _ (getMethod (Value.ref _) (PySem.Str.ofString "append") _) _ _ _); k_dflt (refine' kl_method ?N ?m PySem.F.slot_list_append PySem.F.type_list_append ?_; (case N => k_asm); (case m => (repeat (first | with_reducible assumption | with_reducible exact List.mem_cons_self .. | with_reducible refine List.mem_cons_of_mem _ ?_))))))
      | ((with_reducible show wpAny _ _ (compareOp CmpOp.Eq (Value.ref _) (Value.ref _)) _ _ _); with_reducible (k_here; refine unhide ?_))
      | ((with_reducible show wpAny _ _ (compareOp CmpOp.NotEq (Value.ref _) (Value.ref _)) _ _ _); with_reducible (k_here; refine unhide ?_))
      | ((with_reducible show wpAny _ _ (subscriptTail (Expr.Name _ _) (Expr.Name _ _) (Value.ref _) (Value.int _ _)) _ _ _); with_reducible (k_here; refine unhide ?_))
      | ((with_reducible show wpAny _ _ (exec (Stmt.For (Expr.Name _ _) (Expr.List _ _) (_ :: _) [] _) _) _ _ _); with_reducible (k_here; (rename Fr _ _ _ _ => lF'); (with_unfolding_all refine' For_turns lF' ?_; k_whole)))
      | (with_reducible (k_here; (with_reducible show wpAny _ _ (call (Value.ref 200) _ _) _ _ _); refine unhide ?_))
      | (with_reducible (k_here; (with_reducible show wpAny _ _ (call (Value.builtin "len") [Value.ref _]) _ _ _); k_dflt (refine' len_any ?k0 ?k1 ?k2 ?_; (case k0 => k_asm); (case k1 => (repeat (first | with_reducible assumption | with_reducible exact List.mem_cons_self .. | with_reducible refine List.mem_cons_of_mem _ ?_))); (case k2 => (simp only [List.size_toArray]; omega)); k_whole)))
      | ((with_reducible show wpAny _ _ (call (Value.builtin "list.append") _ _) _ _ _); with_reducible (k_here; refine unhide ?_))
      | ((with_reducible show wpAny _ _ (binaryOp Operator.Add (Value.ref _) (Value.ref _)) _ _ _); with_reducible (k_here; (with_reducible rename LoopTwo => lT'); refine unhide ?_))
      | ((with_reducible show wpAny _ _ (call (Value.builtin "isinstance") _ _) _ _ _); with_reducible (k_here; refine unhide ?_))
      | (with_reducible (k_here; (with_reducible show wpAny _ _ (call (Value.ref 193) _ _) _ _ _); refine unhide ?_))
      | (with_reducible (k_here; (with_reducible show wpAny _ _ (call (Value.ref 172) _ _) _ _ _); refine unhide ?_))
      | (with_reducible (k_here; (with_reducible show wpAny _ _ (call (Value.ref 165) _ _) _ _ _); refine unhide ?_))
      | (with_reducible (k_here; (with_reducible show wpAny _ _ (pyIter (Value.ref _)) _ _ _); refine unhide ?_))
      | ((with_reducible show wpAny _ _ (exec (Stmt.For (Expr.Tuple _ _ _) (Expr.Name _ _) (_ :: _) [] _) _) _ _ _); with_reducible (k_here; (rename Fr _ _ _ _ => lF'); (with_unfolding_all refine' For_turns lF' ?_; k_whole)))
      | ((with_reducible show wpAny _ _ (exec (Stmt.For (Expr.Name _ _) (Expr.Name _ _) (_ :: _) [] _) _) _ _ _); with_reducible (k_here; (rename Fr _ _ _ _ => lF'); (with_unfolding_all refine' For_turns lF' ?_; k_whole)))
      | ((with_reducible show wpAny _ _ (eval (Expr.ListComp _ _ _ _) _) _ _ _); with_reducible (k_here; k_dflt (refine LCg.ListComp_U (F₀ := by k_asm) (by rfl) (by decide) (by rfl) (by decide) (by rfl) (hide_src ?_))))
      | (with_reducible (k_here; (with_reducible show wpAny _ _ (call (Value.ref 186) _ _) _ _ _); refine unhide ?_))
      | ((with_reducible show wpAny _ _ (exec (Stmt.Assign [_] (Expr.ListComp _ _ _ _) _) _) _ _ _); with_reducible (k_here; k_dflt (refine LCg.Assign_ListComp_U (F₀ := by k_asm) (by rfl) (by with_unfolding_all rfl) (by rfl) (by decide) (by rfl) (by decide) (by rfl) (by rfl) (by rfl) (hide_src ?_))))
      | ((with_reducible show wpAny _ _ (leaving _ (Value.ref _)) _ _ _); with_reducible (k_here; k_dflt (first | (refine' leave_madeP ?k1 (Heap.MadeExc.of (by assumption)) ?k2 ?k3 ?_ ?k6 ?k5; (case k6 => exact rfl); (case k2 => assumption); (case k1 => assumption); (case k3 => k_asm); (case k5 => exact rfl); k_whole; intro h' t' R' U'; (try dsimp only at U' ⊢)) | (refine' leave_indexP ?k1 ?k0 ?k2 ?k3 ?_ ?k6 ?k5; (case k6 => exact rfl); (case k0 => assumption); (case k2 => assumption); (case k1 => assumption); (case k3 => k_asm); (case k5 => exact rfl); k_whole; intro h' R' U'; (try dsimp only at U' ⊢)) | (refine' leave_faultP ?k1 ?k0 ?k2 ?k3 ?_ ?k6 ?k5; (case k6 => exact rfl); (case k0 => assumption); (case k2 => assumption); (case k1 => assumption); (case k3 => k_asm); (case k5 => exact rfl); k_whole; intro h' t' dx' t1' t2' R' U'; (try dsimp only at U' ⊢)) | (refine' leaveOnP rfl ?k0 ?k1 ?k2 ?k3 ?k4 ?_; (case k3 => assumption); (case k0 => exact XIs.still (by assumption)); (case k1 => assumption); (case k2 => assumption); (case k4 => assumption); k_whole; intro h' R' U'; (try dsimp only at U' ⊢)))))
      | (with_reducible (k_here; (with_reducible show wpAny _ _ (call (Value.ref _) _ _) _ _ _); (with_reducible rename Does _ _ _ _ _ _ _ _ _ => hS); k_dflt (refine' hS _ _ _ _ _ _ _ _ _ _ _ _ _ _ _ _ _ _ _ _ _ _ _ _ _ _ ?B ?F ?X ?N ?T ?hk ?hd ?hu ?hn ?hI ?U ?_ ?_; (case B => k_asm); (case F => k_asm); (case X => k_asm); (case N => k_asm); (case T => k_asm); (case hk => exact rfl); (case hd => ((try dsimp only [ktrTop, Around.in1, Around.deeper]); omega)); (case hu => ((try dsimp only [ktrTop, Around.in1, Around.deeper]); omega)); (case hn => assumption); (case hI => assumption); (case U => assumption)); (try clear hS)))
      | walk1 | (dsimp only; walk1) | (leave1; (try dsimp only))))
    all_goals first
      | exact postE2 _ _ (by assumption) _ _ _ _ _ _ _ _ _ (by assumption) (by assumption) (by assumption) (by assumption) (by assumption) (by assumption) (by assumption)
      | exact post2 _ _ _ _ _ _ (by assumption) (by assumption) (by assumption) (by assumption) (by assumption)
  case rest =>
  intro nwS S9
  have n188H := ne_obj N9 m188 mH (by simp)
  have n195H := ne_obj N9 m195 mH (by simp)
  have n202H := ne_obj N9 m202 mH (by simp)
  have mcM8 : _ ∈ drop1 181 (drop1 _ nw9) := drop2_mem mcM (ne_data N9 mcM S9.h (cell_seq (by assumption))) (ne_data N9 mcM m181 (cell_fields (by assumption)))
  have mcH8 : _ ∈ drop1 181 (drop1 _ nw9) := drop2_mem mcH (ne_data N9 mcH S9.h (cell_seq (by assumption))) (ne_data N9 mcH m181 (cell_fields (by assumption)))
  have mN8 : _ ∈ drop1 181 (drop1 _ nw9) := drop2_mem mN (ne_data N9 mN S9.h (ne_empty (by omega))) (ne_obj N9 mN m181 (by simp))
  refine LCg.CompSrc.ledger (its := ws9.toArray) (k := 0) rfl (by k_asm) N9 mN ?size (fun g => ?_)
  case size => simp only [List.size_toArray, sizeLine]; omega
  refine comp_rest _ (SInv w9 _ xs9 (drop1 181 (drop1 _ nw9))) ?fin ?turn _ 0 [] _ (Nat.zero_add _) (sinv_start S9)
  case turn =>
    intro sR i ys news v I oI C oC D m₂ h tk E' hi hInv hP hoC hm2 F2 N2 off ne
    obtain ⟨x9, t9, hx9, rfl⟩ := ints_at hI9 hP
    have mcM7 := hInv.2.2.1 _ mcM8
    (repeat' (first
      | (k_unfold; (try dsimp only)) | (k_end; wrow_close)
      | ((with_reducible show wpAny _ _ (call (Value.type "enumerate") _ _) _ _ _); with_reducible (k_here; refine unhide ?_))
      | (with_reducible (k_here; (with_reducible show wpAny _ _ (getMethod (Value.ref _) (PySem.Str.ofString "append") _) _ _ _); k_dflt (refine' kl_method ?N ?m PySem.F.slot_list_append PySem.F.type_list_append ?_; (case N => k_asm); (case m => (repeat (first | with_reducible assumption | with_reducible exact List.mem_cons_self .. | with_reducible refine List.mem_cons_of_mem _ ?_))))))
      | ((with_reducible show wpAny _ _ (compareOp CmpOp.Eq (Value.ref _) (Value.ref _)) _ _ _); with_reducible (k_here; refine unhide ?_))
      | ((with_reducible show wpAny _ _ (compareOp CmpOp.NotEq (Value.ref _) (Value.ref _)) _ _ _); with_reducible (k_here; refine unhide ?_))
      | ((with_reducible show wpAny _ _ (subscriptTail (Expr.Name _ _) (Expr.Name _ _) (Value.ref _) (Value.int _ _)) _ _ _); with_reducible (k_here; refine unhide ?_))
      | ((with_reducible show wpAny _ _ (exec (Stmt.For (Expr.Name _ _) (Expr.List _ _) (_ :: _) [] _) _) _ _ _); with_reducible (k_here; (rename Fr _ _ _ _ => lF'); (with_unfolding_all refine' For_turns lF' ?_; k_whole)))
      | (with_reducible (k_here; (with_reducible show wpAny _ _ (call (Value.ref 200) _ _) _ _ _); refine unhide ?_))
      | (with_reducible (k_here; (with_reducible show wpAny _ _ (call (Value.builtin "len") [Value.ref _]) _ _ _); k_dflt (refine' len_any ?k0 ?k1 ?k2 ?_; (case k0 => k_asm); (case k1 => (repeat (first | with_reducible assumption | with_reducible exact List.mem_cons_self .. | with_reducible refine List.mem_cons_of_mem _ ?_))); (case k2 => (simp only [List.size_toArray]; omega)); k_whole)))
      | ((with_reducible show wpAny _ _ (call (Value.builtin "list.append") _ _) _ _ _); with_reducible (k_here; refine unhide ?_))
      | ((with_reducible show wpAny _ _ (binaryOp Operator.Add (Value.ref _) (Value.ref _)) _ _ _); with_reducible (k_here; (with_reducible rename LoopTwo => lT'); refine unhide ?_))
      | ((with_reducible show wpAny _ _ (call (Value.builtin "isinstance") _ _) _ _ _); with_reducible (k_here; refine unhide ?_))
      | (with_reducible (k_here; (with_reducible show wpAny _ _ (call (Value.ref 193) _ _) _ _ _); refine unhide ?_))
      | (with_reducible (k_here; (with_reducible show wpAny _ _ (call (Value.ref 172) _ _) _ _ _); refine unhide ?_))
      | (with_reducible (k_here; (with_reducible show wpAny _ _ (call (Value.ref 165) _ _) _ _ _); refine unhide ?_))
      | (with_reducible (k_here; (with_reducible show wpAny _ _ (pyIter (Value.ref _)) _ _ _); refine unhide ?_))
      | ((with_reducible show wpAny _ _ (exec (Stmt.For (Expr.Tuple _ _ _) (Expr.Name _ _) (_ :: _) [] _) _) _ _ _); with_reducible (k_here; (rename Fr _ _ _ _ => lF'); (with_unfolding_all refine' For_turns lF' ?_; k_whole)))
      | ((with_reducible show wpAny _ _ (exec (Stmt.For (Expr.Name _ _) (Expr.Name _ _) (_ :: _) [] _) _) _ _ _); with_reducible (k_here; (rename Fr _ _ _ _ => lF'); (with_unfolding_all refine' For_turns lF' ?_; k_whole)))
      | ((with_reducible show wpAny _ _ (eval (Expr.ListComp _ _ _ _) _) _ _ _); with_reducible (k_here; k_dflt (refine LCg.ListComp_U (F₀ := by k_asm) (by rfl) (by decide) (by rfl) (by decide) (by rfl) (hide_src ?_))))
      | (with_reducible (k_here; (with_reducible show wpAny _ _ (call (Value.ref 186) _ _) _ _ _); refine unhide ?_))
      | ((with_reducible show wpAny _ _ (exec (Stmt.Assign [_] (Expr.ListComp _ _ _ _) _) _) _ _ _); with_reducible (k_here; k_dflt (refine LCg.Assign_ListComp_U (F₀ := by k_asm) (by rfl) (by with_unfolding_all rfl) (by rfl) (by decide) (by rfl) (by decide) (by rfl) (by rfl) (by rfl) (hide_src ?_))))
      | ((with_reducible show wpAny _ _ (leaving _ (Value.ref _)) _ _ _); with_reducible (k_here; k_dflt (first | (refine' leave_madeP ?k1 (Heap.MadeExc.of (by assumption)) ?k2 ?k3 ?_ ?k6 ?k5; (case k6 => exact rfl); (case k2 => assumption); (case k1 => assumption); (case k3 => k_asm); (case k5 => exact rfl); k_whole; intro h' t' R' U'; (try dsimp only at U' ⊢)) | (refine' leave_indexP ?k1 ?k0 ?k2 ?k3 ?_ ?k6 ?k5; (case k6 => exact rfl); (case k0 => assumption); (case k2 => assumption); (case k1 => assumption); (case k3 => k_asm); (case k5 => exact rfl); k_whole; intro h' R' U'; (try dsimp only at U' ⊢)) | (refine' leave_faultP ?k1 ?k0 ?k2 ?k3 ?_ ?k6 ?k5; (case k6 => exact rfl); (case k0 => assumption); (case k2 => assumption); (case k1 => assumption); (case k3 => k_asm); (case k5 => exact rfl); k_whole; intro h' t' dx' t1' t2' R' U'; (try dsimp only at U' ⊢)) | (refine' leaveOnP rfl ?k0 ?k1 ?k2 ?k3 ?k4 ?_; (case k3 => assumption); (case k0 => exact XIs.still (by assumption)); (case k1 => assumption); (case k2 => assumption); (case k4 => assumption); k_whole; intro h' R' U'; (try dsimp only at U' ⊢)))))
      | (with_reducible (k_here; (with_reducible show wpAny _ _ (call (Value.ref _) _ _) _ _ _); (with_reducible rename Does _ _ _ _ _ _ _ _ _ => hS); k_dflt (refine' hS _ _ _ _ _ _ _ _ _ _ _ _ _ _ _ _ _ _ _ _ _ _ _ _ _ _ ?B ?F ?X ?N ?T ?hk ?hd ?hu ?hn ?hI ?U ?_ ?_; (case B => k_asm); (case F => k_asm); (case X => k_asm); (case N => k_asm); (case T => k_asm); (case hk => exact rfl); (case hd => ((try dsimp only [ktrTop, Around.in1, Around.deeper]); omega)); (case hu => ((try dsimp only [ktrTop, Around.in1, Around.deeper]); omega)); (case hn => assumption); (case hI => assumption); (case U => assumption)); (try clear hS)))
      | walk1 | (dsimp only; walk1) | (leave1; (try dsimp only))))
    unfold Hide
    obtain ⟨⟨vs7, n7, mh7, hi7⟩, ⟨ps7, mp7, ht7⟩, hk7, _⟩ := id hInv
    obtain ⟨nw7, N7, P7, s7⟩ := preS_of (pos := pos1) (qual := qual1) (nw := nwS) N2 (.tail _ (.tail _ (.tail _ mh7))) (.tail _ (.tail _ (.tail _ mp7))) hi7 ht7 (fun q hq => .tail _ (.tail _ (.tail _ hq))) (fun q hq => .tail _ (.tail _ (.tail _ (hk7 q (drop2_mem (S9.st q hq).1 (S9.st q hq).2.1 (S9.st q hq).2.2.1))))) (fun q hq => ⟨(S9.st q hq).2.1, (S9.st q hq).2.2.1⟩)
    refine' single_use S9 hx9 hx67 _ _ _ _ _ _ _ _ _ _ _ _ _ _ _ _ _ _ _ _ _ _ _ ?B ?F ?X N7 ?T ?XB ?TB ?D rfl ?hd ?hu P7 ?_
    (case B => k_asm)
    (case F => k_asm)
    (case X => k_asm)
    (case T => k_asm)
    (case XB => k_asm)
    (case TB => k_asm)
    (case D => exact ktsDicts_nil)
    (case hd => exact Nat.le_of_ble_eq_true rfl)
    (case hu => exact Nat.le_of_ble_eq_true rfl)
    intro h₁ h5 tk5 v5 nx5 R5 T5 B5 F5 X5 N5 P5 D5
    dsimp only
    obtain ⟨sub5, inv5⟩ := sinv_step hInv off (fun q hq => ⟨(drop1_mem.mp (drop1_mem.mp hq).1).2, (drop1_mem.mp hq).2⟩) s7 R5
    exact LCg.CompEnd.intro (turn_fr T5 F5) (turn_news T5 N5) _ sub5 off3_drop (.inr ⟨_, inv5.2.2.1 _ mN8, rfl, _, rfl⟩) inv5
  case fin =>
    intro ys1 news1 hInv1 D1 h1 tk1 F1 N1 o1
    dsimp only at F1 N1 ⊢
    (repeat' (first
      | (k_unfold; (try dsimp only)) | (k_end; wrow_close)
      | ((with_reducible show wpAny _ _ (call (Value.type "enumerate") _ _) _ _ _); with_reducible (k_here; refine unhide ?_))
      | (with_reducible (k_here; (with_reducible show wpAny _ _ (getMethod (Value.ref _) (PySem.Str.ofString "append") _) _ _ _); k_dflt (refine' kl_method ?N ?m PySem.F.slot_list_append PySem.F.type_list_append ?_; (case N => k_asm); (case m => (repeat (first | with_reducible assumption | with_reducible exact List.mem_cons_self .. | with_reducible refine List.mem_cons_of_mem _ ?_))))))
      | ((with_reducible show wpAny _ _ (compareOp CmpOp.Eq (Value.ref _) (Value.ref _)) _ _ _); with_reducible (k_here; refine unhide ?_))
      | ((with_reducible show wpAny _ _ (compareOp CmpOp.NotEq (Value.ref _) (Value.ref _)) _ _ _); with_reducible (k_here; refine unhide ?_))
      | ((with_reducible show wpAny _ _ (subscriptTail (Expr.Name _ _) (Expr.Name _ _) (Value.ref _) (Value.int _ _)) _ _ _); with_reducible (k_here; refine unhide ?_))
      | ((with_reducible show wpAny _ _ (exec (Stmt.For (Expr.Name _ _) (Expr.List _ _) (_ :: _) [] _) _) _ _ _); with_reducible (k_here; (rename Fr _ _ _ _ => lF'); (with_unfolding_all refine' For_turns lF' ?_; k_whole)))
      | (with_reducible (k_here; (with_reducible show wpAny _ _ (call (Value.ref 200) _ _) _ _ _); refine unhide ?_))
      | (with_reducible (k_here; (with_reducible show wpAny _ _ (call (Value.builtin "len") [Value.ref _]) _ _ _); k_dflt (refine' len_any ?k0 ?k1 ?k2 ?_; (case k0 => k_asm); (case k1 => (repeat (first | with_reducible assumption | with_reducible exact List.mem_cons_self .. | with_reducible refine List.mem_cons_of_mem _ ?_))); (case k2 => (simp only [List.size_toArray]; omega)); k_whole)))
      | ((with_reducible show wpAny _ _ (call (Value.builtin "list.append") _ _) _ _ _); with_reducible (k_here; refine unhide ?_))
      | ((with_reducible show wpAny _ _ (binaryOp Operator.Add (Value.ref _) (Value.ref _)) _ _ _); with_reducible (k_here; (with_reducible rename LoopTwo => lT'); refine unhide ?_))
      | ((with_reducible show wpAny _ _ (call (Value.builtin "isinstance") _ _) _ _ _); with_reducible (k_here; refine unhide ?_))
      | (with_reducible (k_here; (with_reducible show wpAny _ _ (call (Value.ref 193) _ _) _ _ _); refine unhide ?_))
      | (with_reducible (k_here; (with_reducible show wpAny _ _ (call (Value.ref 172) _ _) _ _ _); refine unhide ?_))
      | (with_reducible (k_here; (with_reducible show wpAny _ _ (call (Value.ref 165) _ _) _ _ _); refine unhide ?_))
      | (with_reducible (k_here; (with_reducible show wpAny _ _ (pyIter (Value.ref _)) _ _ _); refine unhide ?_))
      | ((with_reducible show wpAny _ _ (exec (Stmt.For (Expr.Tuple _ _ _) (Expr.Name _ _) (_ :: _) [] _) _) _ _ _); with_reducible (k_here; (rename Fr _ _ _ _ => lF'); (with_unfolding_all refine' For_turns lF' ?_; k_whole)))
      | ((with_reducible show wpAny _ _ (exec (Stmt.For (Expr.Name _ _) (Expr.Name _ _) (_ :: _) [] _) _) _ _ _); with_reducible (k_here; (rename Fr _ _ _ _ => lF'); (with_unfolding_all refine' For_turns lF' ?_; k_whole)))
      | ((with_reducible show wpAny _ _ (eval (Expr.ListComp _ _ _ _) _) _ _ _); with_reducible (k_here; k_dflt (refine LCg.ListComp_U (F₀ := by k_asm) (by rfl) (by decide) (by rfl) (by decide) (by rfl) (hide_src ?_))))
      | (with_reducible (k_here; (with_reducible show wpAny _ _ (call (Value.ref 186) _ _) _ _ _); refine unhide ?_))
      | ((with_reducible show wpAny _ _ (exec (Stmt.Assign [_] (Expr.ListComp _ _ _ _) _) _) _ _ _); with_reducible (k_here; k_dflt (refine LCg.Assign_ListComp_U (F₀ := by k_asm) (by rfl) (by with_unfolding_all rfl) (by rfl) (by decide) (by rfl) (by decide) (by rfl) (by rfl) (by rfl) (hide_src ?_))))
      | ((with_reducible show wpAny _ _ (leaving _ (Value.ref _)) _ _ _); with_reducible (k_here; k_dflt (first | (refine' leave_madeP ?k1 (Heap.MadeExc.of (by assumption)) ?k2 ?k3 ?_ ?k6 ?k5; (case k6 => exact rfl); (case k2 => assumption); (case k1 => assumption); (case k3 => k_asm); (case k5 => exact rfl); k_whole; intro h' t' R' U'; (try dsimp only at U' ⊢)) | (refine' leave_indexP ?k1 ?k0 ?k2 ?k3 ?_ ?k6 ?k5; (case k6 => exact rfl); (case k0 => assumption); (case k2 => assumption); (case k1 => assumption); (case k3 => k_asm); (case k5 => exact rfl); k_whole; intro h' R' U'; (try dsimp only at U' ⊢)) | (refine' leave_faultP ?k1 ?k0 ?k2 ?k3 ?_ ?k6 ?k5; (case k6 => exact rfl); (case k0 => assumption); (case k2 => assumption); (case k1 => assumption); (case k3 => k_asm); (case k5 => exact rfl); k_whole; intro h' t' dx' t1' t2' R' U'; (try dsimp only at U' ⊢)) | (refine' leaveOnP rfl ?k0 ?k1 ?k2 ?k3 ?k4 ?_; (case k3 => assumption); (case k0 => exact XIs.still (by assumption)); (case k1 => assumption); (case k2 => assumption); (case k4 => assumption); k_whole; intro h' R' U'; (try dsimp only at U' ⊢)))))
      | (with_reducible (k_here; (with_reducible show wpAny _ _ (call (Value.ref _) _ _) _ _ _); (with_reducible rename Does _ _ _ _ _ _ _ _ _ => hS); k_dflt (refine' hS _ _ _ _ _ _ _ _ _ _ _ _ _ _ _ _ _ _ _ _ _ _ _ _ _ _ ?B ?F ?X ?N ?T ?hk ?hd ?hu ?hn ?hI ?U ?_ ?_; (case B => k_asm); (case F => k_asm); (case X => k_asm); (case N => k_asm); (case T => k_asm); (case hk => exact rfl); (case hd => ((try dsimp only [ktrTop, Around.in1, Around.deeper]); omega)); (case hu => ((try dsimp only [ktrTop, Around.in1, Around.deeper]); omega)); (case hn => assumption); (case hI => assumption); (case U => assumption)); (try clear hS)))
      | walk1 | (dsimp only; walk1) | (leave1; (try dsimp only))))
    unfold Hide
    rename News _ _ _ (_ :: _ :: _ :: _ :: _ :: news1) => NA
    obtain ⟨nw10, N10, pI, pD, pC, pO, pS, pU⟩ := open5 NA
    clear NA
    rename _ < _ ∧ _ < _ ∧ AllLt _ news1 => l10
    rename Fr _ _ _ _ => F10
    have hNA := note_from pI pD
    obtain ⟨vsH, nH, mHf, hiH'⟩ := hInv1.1
    have hiH : IntsKept vsH (heapAt xs9 ws9.length) := hiH'
    clear hiH'
    have m8a : (188, tabObj #[]) ∈ nw10 := pU _ (hInv1.2.2.1 _ (drop1_mem.mpr ⟨drop1_mem.mpr ⟨m188, n188H⟩, by decide⟩))
    have n8C := ne_obj N10 m8a pC (by simp)
    have m5a : (195, tabObj #[]) ∈ nw10 := pU _ (hInv1.2.2.1 _ (drop1_mem.mpr ⟨drop1_mem.mpr ⟨m195, n195H⟩, by decide⟩))
    have n5C := ne_obj N10 m5a pC (by simp)
    rename _ < _ ∧ AllLt _ news1 => l10o
    have sing := singles_of N10 hInv1 pU l10.2.2 l10o.2 m8a m5a
    have n5O := ne_obj N10 m5a pO (by simp)
    have n18 := ne_obj N10 pS m8a (by simp)
    have n15 := ne_obj N10 pS m5a (by simp)
    have nP10 := ne_obj N10 pI pC (by simp)
    have nD10 := ne_obj N10 pD pC (by simp)
    have mN10 := pU _ (hInv1.2.2.1 _ mN8)
    obtain ⟨ps181, mT1, _⟩ := hInv1.2.1
    have mT110 := pU _ mT1
    have nT1C := ne_obj N10 mT110 pC (by simp)
    have nT1O := ne_obj N10 mT110 pO (by simp)
    have mT210 := pU _ (hInv1.2.2.1 _ (drop1_mem.mpr ⟨drop1_mem.mpr ⟨m202, n202H⟩, show @Ne Nat 202 181 by decide⟩))
    have nT2C := ne_obj N10 mT210 pC (by simp)
    have nT2O := ne_obj N10 mT210 pO (by simp)
    have mH10 := pU _ mHf
    have nHC := Nat.ne_of_lt (ktn_ltOf l10.2.2 _ mHf)
    have nHO := Nat.ne_of_lt (ktn_ltOf l10o.2 _ mHf)
    have nH8 := ne_obj N10 mH10 m8a (by simp)
    have nH5 := ne_obj N10 mH10 m5a (by simp)
    have mcH1 := hInv1.2.2.1 _ mcH8
    have mcH10 := pU _ mcH1
    have ncC := Nat.ne_of_lt (ktn_ltOf l10.2.2 _ mcH1)
    have ncO := Nat.ne_of_lt (ktn_ltOf l10o.2 _ mcH1)
    have nc8 := ne_data N10 mcH10 m8a (cell_fields (by assumption))
    have nc5 := ne_data N10 mcH10 m5a (cell_fields (by assumption))
    have nNC := ne_data N10 mN10 pC (ne_empty (by omega))
    have nNO := ne_data N10 mN10 pO (ne_empty (by omega))
    have nN8 := ne_obj N10 mN10 m8a (by simp)
    refine (let m10 : Str → Option Value := _; have F10L : Fr _ _ _ m10 := F10; ?_)
    clear F10
    refine iter_listTurns rfl F10L N10 mN10 rfl rfl (fun I lI => ?_)
    refine items_rest ws9 (NoInv "x" _ xs9 nw10 _) (fun i m n h => h.2.2 _ (drop1_mem.mpr ⟨mN10, ne_data N10 mN10 pC (ne_empty (by omega))⟩)) ?fin1 ?turn1 ws9.length 0 _ _ (Nat.zero_add _) ⟨frm1, noted_zero pC, fun q hq => (drop1_mem.mp hq).1⟩ (fun p hp => Nat.ne_of_lt (lI p hp))
    case turn1 =>
      intro QR sR i m news v h tk o hv hInv off ho F2 N2
      obtain ⟨⟨vp, rfl⟩, ⟨cs2, n2, mC2, hcs2, hold2⟩, hk2⟩ := hInv
      obtain ⟨x9, t9, hx9, rfl⟩ := ints_at hI9 (i := i) (by simpa using hv)
      (repeat' (first
        | (k_unfold; (try dsimp only)) | (k_end; wrow_close)
        | ((with_reducible show wpAny _ _ (call (Value.type "enumerate") _ _) _ _ _); with_reducible (k_here; refine unhide ?_))
        | (with_reducible (k_here; (with_reducible show wpAny _ _ (getMethod (Value.ref _) (PySem.Str.ofString "append") _) _ _ _); k_dflt (refine' kl_method ?N ?m PySem.F.slot_list_append PySem.F.type_list_append ?_; (case N => k_asm); (case m => (repeat (first | with_reducible assumption | with_reducible exact List.mem_cons_self .. | with_reducible refine List.mem_cons_of_mem _ ?_))))))
        | ((with_reducible show wpAny _ _ (compareOp CmpOp.Eq (Value.ref _) (Value.ref _)) _ _ _); with_reducible (k_here; refine unhide ?_))
        | ((with_reducible show wpAny _ _ (compareOp CmpOp.NotEq (Value.ref _) (Value.ref _)) _ _ _); with_reducible (k_here; refine unhide ?_))
        | ((with_reducible show wpAny _ _ (subscriptTail (Expr.Name _ _) (Expr.Name _ _) (Value.ref _) (Value.int _ _)) _ _ _); with_reducible (k_here; refine unhide ?_))
        | ((with_reducible show wpAny _ _ (exec (Stmt.For (Expr.Name _ _) (Expr.List _ _) (_ :: _) [] _) _) _ _ _); with_reducible (k_here; (rename Fr _ _ _ _ => lF'); (with_unfolding_all refine' For_turns lF' ?_; k_whole)))
        | (with_reducible (k_here; (with_reducible show wpAny _ _ (call (Value.ref 200) _ _) _ _ _); refine unhide ?_))
        | (with_reducible (k_here; (with_reducible show wpAny _ _ (call (Value.builtin "len") [Value.ref _]) _ _ _); k_dflt (refine' len_any ?k0 ?k1 ?k2 ?_; (case k0 => k_asm); (case k1 => (repeat (first | with_reducible assumption | with_reducible exact List.mem_cons_self .. | with_reducible refine List.mem_cons_of_mem _ ?_))); (case k2 => (simp only [List.size_toArray]; omega)); k_whole)))
        | ((with_reducible show wpAny _ _ (call (Value.builtin "list.append") _ _) _ _ _); with_reducible (k_here; refine unhide ?_))
        | ((with_reducible show wpAny _ _ (binaryOp Operator.Add (Value.ref _) (Value.ref _)) _ _ _); with_reducible (k_here; (with_reducible rename LoopTwo => lT'); refine unhide ?_))
        | ((with_reducible show wpAny _ _ (call (Value.builtin "isinstance") _ _) _ _ _); with_reducible (k_here; refine unhide ?_))
        | (with_reducible (k_here; (with_reducible show wpAny _ _ (call (Value.ref 193) _ _) _ _ _); refine unhide ?_))
        | (with_reducible (k_here; (with_reducible show wpAny _ _ (call (Value.ref 172) _ _) _ _ _); refine unhide ?_))
        | (with_reducible (k_here; (with_reducible show wpAny _ _ (call (Value.ref 165) _ _) _ _ _); refine unhide ?_))
        | (with_reducible (k_here; (with_reducible show wpAny _ _ (pyIter (Value.ref _)) _ _ _); refine unhide ?_))
        | ((with_reducible show wpAny _ _ (exec (Stmt.For (Expr.Tuple _ _ _) (Expr.Name _ _) (_ :: _) [] _) _) _ _ _); with_reducible (k_here; (rename Fr _ _ _ _ => lF'); (with_unfolding_all refine' For_turns lF' ?_; k_whole)))
        | ((with_reducible show wpAny _ _ (exec (Stmt.For (Expr.Name _ _) (Expr.Name _ _) (_ :: _) [] _) _) _ _ _); with_reducible (k_here; (rename Fr _ _ _ _ => lF'); (with_unfolding_all refine' For_turns lF' ?_; k_whole)))
        | ((with_reducible show wpAny _ _ (eval (Expr.ListComp _ _ _ _) _) _ _ _); with_reducible (k_here; k_dflt (refine LCg.ListComp_U (F₀ := by k_asm) (by rfl) (by decide) (by rfl) (by decide) (by rfl) (hide_src ?_))))
        | (with_reducible (k_here; (with_reducible show wpAny _ _ (call (Value.ref 186) _ _) _ _ _); refine unhide ?_))
        | ((with_reducible show wpAny _ _ (exec (Stmt.Assign [_] (Expr.ListComp _ _ _ _) _) _) _ _ _); with_reducible (k_here; k_dflt (refine LCg.Assign_ListComp_U (F₀ := by k_asm) (by rfl) (by with_unfolding_all rfl) (by rfl) (by decide) (by rfl) (by decide) (by rfl) (by rfl) (by rfl) (hide_src ?_))))
        | ((with_reducible show wpAny _ _ (leaving _ (Value.ref _)) _ _ _); with_reducible (k_here; k_dflt (first | (refine' leave_madeP ?k1 (Heap.MadeExc.of (by assumption)) ?k2 ?k3 ?_ ?k6 ?k5; (case k6 => exact rfl); (case k2 => assumption); (case k1 => assumption); (case k3 => k_asm); (case k5 => exact rfl); k_whole; intro h' t' R' U'; (try dsimp only at U' ⊢)) | (refine' leave_indexP ?k1 ?k0 ?k2 ?k3 ?_ ?k6 ?k5; (case k6 => exact rfl); (case k0 => assumption); (case k2 => assumption); (case k1 => assumption); (case k3 => k_asm); (case k5 => exact rfl); k_whole; intro h' R' U'; (try dsimp only at U' ⊢)) | (refine' leave_faultP ?k1 ?k0 ?k2 ?k3 ?_ ?k6 ?k5; (case k6 => exact rfl); (case k0 => assumption); (case k2 => assumption); (case k1 => assumption); (case k3 => k_asm); (case k5 => exact rfl); k_whole; intro h' t' dx' t1' t2' R' U'; (try dsimp only at U' ⊢)) | (refine' leaveOnP rfl ?k0 ?k1 ?k2 ?k3 ?k4 ?_; (case k3 => assumption); (case k0 => exact XIs.still (by assumption)); (case k1 => assumption); (case k2 => assumption); (case k4 => assumption); k_whole; intro h' R' U'; (try dsimp only at U' ⊢)))))
        | (with_reducible (k_here; (with_reducible show wpAny _ _ (call (Value.ref _) _ _) _ _ _); (with_reducible rename Does _ _ _ _ _ _ _ _ _ => hS); k_dflt (refine' hS _ _ _ _ _ _ _ _ _ _ _ _ _ _ _ _ _ _ _ _ _ _ _ _ _ _ ?B ?F ?X ?N ?T ?hk ?hd ?hu ?hn ?hI ?U ?_ ?_; (case B => k_asm); (case F => k_asm); (case X => k_asm); (case N => k_asm); (case T => k_asm); (case hk => exact rfl); (case hd => ((try dsimp only [ktrTop, Around.in1, Around.deeper]); omega)); (case hu => ((try dsimp only [ktrTop, Around.in1, Around.deeper]); omega)); (case hn => assumption); (case hI => assumption); (case U => assumption)); (try clear hS)))
        | walk1 | (dsimp only; walk1) | (leave1; (try dsimp only))))
      unfold Hide
      obtain ⟨name2, P2, hP2, hNt2⟩ := hNA x9 t9
      rename News _ _ _ ((I, o) :: news) => N2b
      obtain ⟨N3, U3⟩ := headed N2b (.tail _ mC2)
      refine' hNt2 _ _ _ _ _ _ _ _ _ _ _ _ _ _ _ _ _ _ _ _ _ _ _ _ _ _ ?B ?F ?X N3 ?T rfl ?hd ?hu ?hn ?hl U3 ?_
      (case B => k_asm)
      (case F => k_asm)
      (case X => k_asm)
      (case T => k_asm)
      (case hd => exact Nat.le_of_ble_eq_true rfl)
      (case hu => exact Nat.le_of_ble_eq_true rfl)
      (case hn => exact two_in (in_headed (.tail _ (hk2 _ (drop1_mem.mpr ⟨pI, nP10⟩))) nP10) (in_headed (.tail _ (hk2 _ (drop1_mem.mpr ⟨pD, nD10⟩))) nD10))
      (case hl => (have := (List.getElem?_eq_some_iff.mp hx9).1; omega))
      intro h4 tk4 t41 t42 its4 tn4 n4 hP4 F4 N4
      dsimp only
      (repeat' (first
        | (k_unfold; (try dsimp only)) | (k_end; wrow_close)
        | ((with_reducible show wpAny _ _ (call (Value.type "enumerate") _ _) _ _ _); with_reducible (k_here; refine unhide ?_))
        | (with_reducible (k_here; (with_reducible show wpAny _ _ (getMethod (Value.ref _) (PySem.Str.ofString "append") _) _ _ _); k_dflt (refine' kl_method ?N ?m PySem.F.slot_list_append PySem.F.type_list_append ?_; (case N => k_asm); (case m => (repeat (first | with_reducible assumption | with_reducible exact List.mem_cons_self .. | with_reducible refine List.mem_cons_of_mem _ ?_))))))
        | ((with_reducible show wpAny _ _ (compareOp CmpOp.Eq (Value.ref _) (Value.ref _)) _ _ _); with_reducible (k_here; refine unhide ?_))
        | ((with_reducible show wpAny _ _ (compareOp CmpOp.NotEq (Value.ref _) (Value.ref _)) _ _ _); with_reducible (k_here; refine unhide ?_))
        | ((with_reducible show wpAny _ _ (subscriptTail (Expr.Name _ _) (Expr.Name _ _) (Value.ref _) (Value.int _ _)) _ _ _); with_reducible (k_here; refine unhide ?_))
        | ((with_reducible show wpAny _ _ (exec (Stmt.For (Expr.Name _ _) (Expr.List _ _) (_ :: _) [] _) _) _ _ _); with_reducible (k_here; (rename Fr _ _ _ _ => lF'); (with_unfolding_all refine' For_turns lF' ?_; k_whole)))
        | (with_reducible (k_here; (with_reducible show wpAny _ _ (call (Value.ref 200) _ _) _ _ _); refine unhide ?_))
        | (with_reducible (k_here; (with_reducible show wpAny _ _ (call (Value.builtin "len") [Value.ref _]) _ _ _); k_dflt (refine' len_any ?k0 ?k1 ?k2 ?_; (case k0 => k_asm); (case k1 => (repeat (first | with_reducible assumption | with_reducible exact List.mem_cons_self .. | with_reducible refine List.mem_cons_of_mem _ ?_))); (case k2 => (simp only [List.size_toArray]; omega)); k_whole)))
        | ((with_reducible show wpAny _ _ (call (Value.builtin "list.append") _ _) _ _ _); with_reducible (k_here; refine unhide ?_))
        | ((with_reducible show wpAny _ _ (binaryOp Operator.Add (Value.ref _) (Value.ref _)) _ _ _); with_reducible (k_here; (with_reducible rename LoopTwo => lT'); refine unhide ?_))
        | ((with_reducible show wpAny _ _ (call (Value.builtin "isinstance") _ _) _ _ _); with_reducible (k_here; refine unhide ?_))
        | (with_reducible (k_here; (with_reducible show wpAny _ _ (call (Value.ref 193) _ _) _ _ _); refine unhide ?_))
        | (with_reducible (k_here; (with_reducible show wpAny _ _ (call (Value.ref 172) _ _) _ _ _); refine unhide ?_))
        | (with_reducible (k_here; (with_reducible show wpAny _ _ (call (Value.ref 165) _ _) _ _ _); refine unhide ?_))
        | (with_reducible (k_here; (with_reducible show wpAny _ _ (pyIter (Value.ref _)) _ _ _); refine unhide ?_))
        | ((with_reducible show wpAny _ _ (exec (Stmt.For (Expr.Tuple _ _ _) (Expr.Name _ _) (_ :: _) [] _) _) _ _ _); with_reducible (k_here; (rename Fr _ _ _ _ => lF'); (with_unfolding_all refine' For_turns lF' ?_; k_whole)))
        | ((with_reducible show wpAny _ _ (exec (Stmt.For (Expr.Name _ _) (Expr.Name _ _) (_ :: _) [] _) _) _ _ _); with_reducible (k_here; (rename Fr _ _ _ _ => lF'); (with_unfolding_all refine' For_turns lF' ?_; k_whole)))
        | ((with_reducible show wpAny _ _ (eval (Expr.ListComp _ _ _ _) _) _ _ _); with_reducible (k_here; k_dflt (refine LCg.ListComp_U (F₀ := by k_asm) (by rfl) (by decide) (by rfl) (by decide) (by rfl) (hide_src ?_))))
        | (with_reducible (k_here; (with_reducible show wpAny _ _ (call (Value.ref 186) _ _) _ _ _); refine unhide ?_))
        | ((with_reducible show wpAny _ _ (exec (Stmt.Assign [_] (Expr.ListComp _ _ _ _) _) _) _ _ _); with_reducible (k_here; k_dflt (refine LCg.Assign_ListComp_U (F₀ := by k_asm) (by rfl) (by with_unfolding_all rfl) (by rfl) (by decide) (by rfl) (by decide) (by rfl) (by rfl) (by rfl) (hide_src ?_))))
        | ((with_reducible show wpAny _ _ (leaving _ (Value.ref _)) _ _ _); with_reducible (k_here; k_dflt (first | (refine' leave_madeP ?k1 (Heap.MadeExc.of (by assumption)) ?k2 ?k3 ?_ ?k6 ?k5; (case k6 => exact rfl); (case k2 => assumption); (case k1 => assumption); (case k3 => k_asm); (case k5 => exact rfl); k_whole; intro h' t' R' U'; (try dsimp only at U' ⊢)) | (refine' leave_indexP ?k1 ?k0 ?k2 ?k3 ?_ ?k6 ?k5; (case k6 => exact rfl); (case k0 => assumption); (case k2 => assumption); (case k1 => assumption); (case k3 => k_asm); (case k5 => exact rfl); k_whole; intro h' R' U'; (try dsimp only at U' ⊢)) | (refine' leave_faultP ?k1 ?k0 ?k2 ?k3 ?_ ?k6 ?k5; (case k6 => exact rfl); (case k0 => assumption); (case k2 => assumption); (case k1 => assumption); (case k3 => k_asm); (case k5 => exact rfl); k_whole; intro h' t' dx' t1' t2' R' U'; (try dsimp only at U' ⊢)) | (refine' leaveOnP rfl ?k0 ?k1 ?k2 ?k3 ?k4 ?_; (case k3 => assumption); (case k0 => exact XIs.still (by assumption)); (case k1 => assumption); (case k2 => assumption); (case k4 => assumption); k_whole; intro h' R' U'; (try dsimp only at U' ⊢)))))
        | (with_reducible (k_here; (with_reducible show wpAny _ _ (call (Value.ref _) _ _) _ _ _); (with_reducible rename Does _ _ _ _ _ _ _ _ _ => hS); k_dflt (refine' hS _ _ _ _ _ _ _ _ _ _ _ _ _ _ _ _ _ _ _ _ _ _ _ _ _ _ ?B ?F ?X ?N ?T ?hk ?hd ?hu ?hn ?hI ?U ?_ ?_; (case B => k_asm); (case F => k_asm); (case X => k_asm); (case N => k_asm); (case T => k_asm); (case hk => exact rfl); (case hd => ((try dsimp only [ktrTop, Around.in1, Around.deeper]); omega)); (case hu => ((try dsimp only [ktrTop, Around.in1, Around.deeper]); omega)); (case hn => assumption); (case hI => assumption); (case U => assumption)); (try clear hS)))
        | walk1 | (dsimp only; walk1) | (leave1; (try dsimp only))))
      exact endW F4 N4 (noinv_in off mC2) (noinv_next hx9 (hP2 _ hP4) ho hcs2 hold2 hk2 off mC2 N2b N4)
    case fin1 =>
      intro m news h tk hInv F N
      obtain ⟨⟨vp, rfl⟩, hNo, hk2⟩ := hInv
      dsimp only
      (repeat' (first
        | (k_unfold; (try dsimp only)) | (k_end; wrow_close)
        | ((with_reducible show wpAny _ _ (call (Value.type "enumerate") _ _) _ _ _); with_reducible (k_here; refine unhide ?_))
        | (with_reducible (k_here; (with_reducible show wpAny _ _ (getMethod (Value.ref _) (PySem.Str.ofString "append") _) _ _ _); k_dflt (refine' kl_method ?N ?m PySem.F.slot_list_append PySem.F.type_list_append ?_; (case N => k_asm); (case m => (repeat (first | with_reducible assumption | with_reducible exact List.mem_cons_self .. | with_reducible refine List.mem_cons_of_mem _ ?_))))))
        | ((with_reducible show wpAny _ _ (compareOp CmpOp.Eq (Value.ref _) (Value.ref _)) _ _ _); with_reducible (k_here; refine unhide ?_))
        | ((with_reducible show wpAny _ _ (compareOp CmpOp.NotEq (Value.ref _) (Value.ref _)) _ _ _); with_reducible (k_here; refine unhide ?_))
        | ((with_reducible show wpAny _ _ (subscriptTail (Expr.Name _ _) (Expr.Name _ _) (Value.ref _) (Value.int _ _)) _ _ _); with_reducible (k_here; refine unhide ?_))
        | ((with_reducible show wpAny _ _ (exec (Stmt.For (Expr.Name _ _) (Expr.List _ _) (_ :: _) [] _) _) _ _ _); with_reducible (k_here; (rename Fr _ _ _ _ => lF'); (with_unfolding_all refine' For_turns lF' ?_; k_whole)))
        | (with_reducible (k_here; (with_reducible show wpAny _ _ (call (Value.ref 200) _ _) _ _ _); refine unhide ?_))
        | (with_reducible (k_here; (with_reducible show wpAny _ _ (call (Value.builtin "len") [Value.ref _]) _ _ _); k_dflt (refine' len_any ?k0 ?k1 ?k2 ?_; (case k0 => k_asm); (case k1 => (repeat (first | with_reducible assumption | with_reducible exact List.mem_cons_self .. | with_reducible refine List.mem_cons_of_mem _ ?_))); (case k2 => (simp only [List.size_toArray]; omega)); k_whole)))
        | ((with_reducible show wpAny _ _ (call (Value.builtin "list.append") _ _) _ _ _); with_reducible (k_here; refine unhide ?_))
        | ((with_reducible show wpAny _ _ (binaryOp Operator.Add (Value.ref _) (Value.ref _)) _ _ _); with_reducible (k_here; (with_reducible rename LoopTwo => lT'); refine unhide ?_))
        | ((with_reducible show wpAny _ _ (call (Value.builtin "isinstance") _ _) _ _ _); with_reducible (k_here; refine unhide ?_))
        | (with_reducible (k_here; (with_reducible show wpAny _ _ (call (Value.ref 193) _ _) _ _ _); refine unhide ?_))
        | (with_reducible (k_here; (with_reducible show wpAny _ _ (call (Value.ref 172) _ _) _ _ _); refine unhide ?_))
        | (with_reducible (k_here; (with_reducible show wpAny _ _ (call (Value.ref 165) _ _) _ _ _); refine unhide ?_))
        | (with_reducible (k_here; (with_reducible show wpAny _ _ (pyIter (Value.ref _)) _ _ _); refine unhide ?_))
        | ((with_reducible show wpAny _ _ (exec (Stmt.For (Expr.Tuple _ _ _) (Expr.Name _ _) (_ :: _) [] _) _) _ _ _); with_reducible (k_here; (rename Fr _ _ _ _ => lF'); (with_unfolding_all refine' For_turns lF' ?_; k_whole)))
        | ((with_reducible show wpAny _ _ (exec (Stmt.For (Expr.Name _ _) (Expr.Name _ _) (_ :: _) [] _) _) _ _ _); with_reducible (k_here; (rename Fr _ _ _ _ => lF'); (with_unfolding_all refine' For_turns lF' ?_; k_whole)))
        | ((with_reducible show wpAny _ _ (eval (Expr.ListComp _ _ _ _) _) _ _ _); with_reducible (k_here; k_dflt (refine LCg.ListComp_U (F₀ := by k_asm) (by rfl) (by decide) (by rfl) (by decide) (by rfl) (hide_src ?_))))
        | (with_reducible (k_here; (with_reducible show wpAny _ _ (call (Value.ref 186) _ _) _ _ _); refine unhide ?_))
        | ((with_reducible show wpAny _ _ (exec (Stmt.Assign [_] (Expr.ListComp _ _ _ _) _) _) _ _ _); with_reducible (k_here; k_dflt (refine LCg.Assign_ListComp_U (F₀ := by k_asm) (by rfl) (by with_unfolding_all rfl) (by rfl) (by decide) (by rfl) (by decide) (by rfl) (by rfl) (by rfl) (hide_src ?_))))
        | ((with_reducible show wpAny _ _ (leaving _ (Value.ref _)) _ _ _); with_reducible (k_here; k_dflt (first | (refine' leave_madeP ?k1 (Heap.MadeExc.of (by assumption)) ?k2 ?k3 ?_ ?k6 ?k5; (case k6 => exact rfl); (case k2 => assumption); (case k1 => assumption); (case k3 => k_asm); (case k5 => exact rfl); k_whole; intro h' t' R' U'; (try dsimp only at U' ⊢)) | (refine' leave_indexP ?k1 ?k0 ?k2 ?k3 ?_ ?k6 ?k5; (case k6 => exact rfl); (case k0 => assumption); (case k2 => assumption); (case k1 => assumption); (case k3 => k_asm); (case k5 => exact rfl); k_whole; intro h' R' U'; (try dsimp only at U' ⊢)) | (refine' leave_faultP ?k1 ?k0 ?k2 ?k3 ?_ ?k6 ?k5; (case k6 => exact rfl); (case k0 => assumption); (case k2 => assumption); (case k1 => assumption); (case k3 => k_asm); (case k5 => exact rfl); k_whole; intro h' t' dx' t1' t2' R' U'; (try dsimp only at U' ⊢)) | (refine' leaveOnP rfl ?k0 ?k1 ?k2 ?k3 ?k4 ?_; (case k3 => assumption); (case k0 => exact XIs.still (by assumption)); (case k1 => assumption); (case k2 => assumption); (case k4 => assumption); k_whole; intro h' R' U'; (try dsimp only at U' ⊢)))))
        | (with_reducible (k_here; (with_reducible show wpAny _ _ (call (Value.ref _) _ _) _ _ _); (with_reducible rename Does _ _ _ _ _ _ _ _ _ => hS); k_dflt (refine' hS _ _ _ _ _ _ _ _ _ _ _ _ _ _ _ _ _ _ _ _ _ _ _ _ _ _ ?B ?F ?X ?N ?T ?hk ?hd ?hu ?hn ?hI ?U ?_ ?_; (case B => k_asm); (case F => k_asm); (case X => k_asm); (case N => k_asm); (case T => k_asm); (case hk => exact rfl); (case hd => ((try dsimp only [ktrTop, Around.in1, Around.deeper]); omega)); (case hu => ((try dsimp only [ktrTop, Around.in1, Around.deeper]); omega)); (case hn => assumption); (case hI => assumption); (case U => assumption)); (try clear hS)))
        | walk1 | (dsimp only; walk1) | (leave1; (try dsimp only))))
      unfold Hide
      have mN11 := hk2 _ (drop1_mem.mpr ⟨mN10, ne_data N10 mN10 pC (ne_empty (by omega))⟩)
      refine LCg.CompSrc.ledger (its := ws9.toArray) (k := 0) rfl (by k_asm) N mN11 ?size (fun g => ?_)
      case size => simp only [List.size_toArray, sizeLine]; omega
      refine comp_rest _ (PInvC xs9 news) ?fin2 ?turn2 _ 0 [] _ (Nat.zero_add _) pinvc_start
      case turn2 =>
        intro sR i ys news5 v I oI C oC D m₂ h tk E' hi hInv5 hP hoC hm2 F5 N5 off5 ne5
        obtain ⟨x9, t9, hx9, rfl⟩ := ints_at hI9 hP
        (repeat' (first
          | (k_unfold; (try dsimp only)) | (k_end; wrow_close)
          | ((with_reducible show wpAny _ _ (call (Value.type "enumerate") _ _) _ _ _); with_reducible (k_here; refine unhide ?_))
          | (with_reducible (k_here; (with_reducible show wpAny _ _ (getMethod (Value.ref _) (PySem.Str.ofString "append") _) _ _ _); k_dflt (refine' kl_method ?N ?m PySem.F.slot_list_append PySem.F.type_list_append ?_; (case N => k_asm); (case m => (repeat (first | with_reducible assumption | with_reducible exact List.mem_cons_self .. | with_reducible refine List.mem_cons_of_mem _ ?_))))))
          | ((with_reducible show wpAny _ _ (compareOp CmpOp.Eq (Value.ref _) (Value.ref _)) _ _ _); with_reducible (k_here; refine unhide ?_))
          | ((with_reducible show wpAny _ _ (compareOp CmpOp.NotEq (Value.ref _) (Value.ref _)) _ _ _); with_reducible (k_here; refine unhide ?_))
          | ((with_reducible show wpAny _ _ (subscriptTail (Expr.Name _ _) (Expr.Name _ _) (Value.ref _) (Value.int _ _)) _ _ _); with_reducible (k_here; refine unhide ?_))
          | ((with_reducible show wpAny _ _ (exec (Stmt.For (Expr.Name _ _) (Expr.List _ _) (_ :: _) [] _) _) _ _ _); with_reducible (k_here; (rename Fr _ _ _ _ => lF'); (with_unfolding_all refine' For_turns lF' ?_; k_whole)))
          | (with_reducible (k_here; (with_reducible show wpAny _ _ (call (Value.ref 200) _ _) _ _ _); refine unhide ?_))
          | (with_reducible (k_here; (with_reducible show wpAny _ _ (call (Value.builtin "len") [Value.ref _]) _ _ _); k_dflt (refine' len_any ?k0 ?k1 ?k2 ?_; (case k0 => k_asm); (case k1 => (repeat (first | with_reducible assumption | with_reducible exact List.mem_cons_self .. | with_reducible refine List.mem_cons_of_mem _ ?_))); (case k2 => (simp only [List.size_toArray]; omega)); k_whole)))
          | ((with_reducible show wpAny _ _ (call (Value.builtin "list.append") _ _) _ _ _); with_reducible (k_here; refine unhide ?_))
          | ((with_reducible show wpAny _ _ (binaryOp Operator.Add (Value.ref _) (Value.ref _)) _ _ _); with_reducible (k_here; (with_reducible rename LoopTwo => lT'); refine unhide ?_))
          | ((with_reducible show wpAny _ _ (call (Value.builtin "isinstance") _ _) _ _ _); with_reducible (k_here; refine unhide ?_))
          | (with_reducible (k_here; (with_reducible show wpAny _ _ (call (Value.ref 193) _ _) _ _ _); refine unhide ?_))
          | (with_reducible (k_here; (with_reducible show wpAny _ _ (call (Value.ref 172) _ _) _ _ _); refine unhide ?_))
          | (with_reducible (k_here; (with_reducible show wpAny _ _ (call (Value.ref 165) _ _) _ _ _); refine unhide ?_))
          | (with_reducible (k_here; (with_reducible show wpAny _ _ (pyIter (Value.ref _)) _ _ _); refine unhide ?_))
          | ((with_reducible show wpAny _ _ (exec (Stmt.For (Expr.Tuple _ _ _) (Expr.Name _ _) (_ :: _) [] _) _) _ _ _); with_reducible (k_here; (rename Fr _ _ _ _ => lF'); (with_unfolding_all refine' For_turns lF' ?_; k_whole)))
          | ((with_reducible show wpAny _ _ (exec (Stmt.For (Expr.Name _ _) (Expr.Name _ _) (_ :: _) [] _) _) _ _ _); with_reducible (k_here; (rename Fr _ _ _ _ => lF'); (with_unfolding_all refine' For_turns lF' ?_; k_whole)))
          | ((with_reducible show wpAny _ _ (eval (Expr.ListComp _ _ _ _) _) _ _ _); with_reducible (k_here; k_dflt (refine LCg.ListComp_U (F₀ := by k_asm) (by rfl) (by decide) (by rfl) (by decide) (by rfl) (hide_src ?_))))
          | (with_reducible (k_here; (with_reducible show wpAny _ _ (call (Value.ref 186) _ _) _ _ _); refine unhide ?_))
          | ((with_reducible show wpAny _ _ (exec (Stmt.Assign [_] (Expr.ListComp _ _ _ _) _) _) _ _ _); with_reducible (k_here; k_dflt (refine LCg.Assign_ListComp_U (F₀ := by k_asm) (by rfl) (by with_unfolding_all rfl) (by rfl) (by decide) (by rfl) (by decide) (by rfl) (by rfl) (by rfl) (hide_src ?_))))
          | ((with_reducible show wpAny _ _ (leaving _ (Value.ref _)) _ _ _); with_reducible (k_here; k_dflt (first | (refine' leave_madeP ?k1 (Heap.MadeExc.of (by assumption)) ?k2 ?k3 ?_ ?k6 ?k5; (case k6 => exact rfl); (case k2 => assumption); (case k1 => assumption); (case k3 => k_asm); (case k5 => exact rfl); k_whole; intro h' t' R' U'; (try dsimp only at U' ⊢)) | (refine' leave_indexP ?k1 ?k0 ?k2 ?k3 ?_ ?k6 ?k5; (case k6 => exact rfl); (case k0 => assumption); (case k2 => assumption); (case k1 => assumption); (case k3 => k_asm); (case k5 => exact rfl); k_whole; intro h' R' U'; (try dsimp only at U' ⊢)) | (refine' leave_faultP ?k1 ?k0 ?k2 ?k3 ?_ ?k6 ?k5; (case k6 => exact rfl); (case k0 => assumption); (case k2 => assumption); (case k1 => assumption); (case k3 => k_asm); (case k5 => exact rfl); k_whole; intro h' t' dx' t1' t2' R' U'; (try dsimp only at U' ⊢)) | (refine' leaveOnP rfl ?k0 ?k1 ?k2 ?k3 ?k4 ?_; (case k3 => assumption); (case k0 => exact XIs.still (by assumption)); (case k1 => assumption); (case k2 => assumption); (case k4 => assumption); k_whole; intro h' R' U'; (try dsimp only at U' ⊢)))))
          | (with_reducible (k_here; (with_reducible show wpAny _ _ (call (Value.ref _) _ _) _ _ _); (with_reducible rename Does _ _ _ _ _ _ _ _ _ => hS); k_dflt (refine' hS _ _ _ _ _ _ _ _ _ _ _ _ _ _ _ _ _ _ _ _ _ _ _ _ _ _ ?B ?F ?X ?N ?T ?hk ?hd ?hu ?hn ?hI ?U ?_ ?_; (case B => k_asm); (case F => k_asm); (case X => k_asm); (case N => k_asm); (case T => k_asm); (case hk => exact rfl); (case hd => ((try dsimp only [ktrTop, Around.in1, Around.deeper]); omega)); (case hu => ((try dsimp only [ktrTop, Around.in1, Around.deeper]); omega)); (case hn => assumption); (case hI => assumption); (case U => assumption)); (try clear hS)))
          | walk1 | (dsimp only; walk1) | (leave1; (try dsimp only))))
        unfold Hide
        refine' pair_any _ _ _ _ _ _ _ _ _ _ _ _ _ _ _ _ _ _ _ _ _ _ _ _ ?B ?F ?X N5 ?T rfl ?hd ?hu ?_
        (case B => k_asm)
        (case F => k_asm)
        (case X => k_asm)
        (case T => k_asm)
        (case hd => exact Nat.le_of_ble_eq_true rfl)
        (case hu => exact Nat.le_of_ble_eq_true rfl)
        intro h6 tk6 v6 ex6 P6 fr6 F6 N6
        dsimp only
        exact LCg.CompEnd.intro F6 N6 (ex6 ++ news5) (fun p hp => mem_three hp) (off3_app fr6 off5) (.inr ⟨_, List.mem_append_right _ (hInv5.1 _ mN11), rfl, _, rfl⟩) (pinvc_step hInv5 hx9 P6)
      case fin2 =>
        intro ys2 news2 hInv2 D2 h2 tk2 F2 N2 o2
        dsimp only at F2 N2 ⊢
        refine calls_ne N2 hNo (fun q hq => .tail _ (hInv2.1 q hq)) hInv2 (fun q hq => .tail _ hq) (.head _) ?hu _ _ _ _ ?_
        case hu => first | k_units | exact Nat.lt_of_lt_of_le (Nat.lt_of_ble_eq_true rfl) (Nat.le_refl _)
        (repeat' (first
          | (k_unfold; (try dsimp only)) | (k_end; wrow_close)
          | ((with_reducible show wpAny _ _ (call (Value.type "enumerate") _ _) _ _ _); with_reducible (k_here; refine unhide ?_))
          | (with_reducible (k_here; (with_reducible show wpAny _ _ (getMethod (Value.ref _) (PySem.Str.ofString "append") _) _ _ _); k_dflt (refine' kl_method ?N ?m PySem.F.slot_list_append PySem.F.type_list_append ?_; (case N => k_asm); (case m => (repeat (first | with_reducible assumption | with_reducible exact List.mem_cons_self .. | with_reducible refine List.mem_cons_of_mem _ ?_))))))
          | ((with_reducible show wpAny _ _ (compareOp CmpOp.Eq (Value.ref _) (Value.ref _)) _ _ _); with_reducible (k_here; refine unhide ?_))
          | ((with_reducible show wpAny _ _ (compareOp CmpOp.NotEq (Value.ref _) (Value.ref _)) _ _ _); with_reducible (k_here; refine unhide ?_))
          | ((with_reducible show wpAny _ _ (subscriptTail (Expr.Name _ _) (Expr.Name _ _) (Value.ref _) (Value.int _ _)) _ _ _); with_reducible (k_here; refine unhide ?_))
          | ((with_reducible show wpAny _ _ (exec (Stmt.For (Expr.Name _ _) (Expr.List _ _) (_ :: _) [] _) _) _ _ _); with_reducible (k_here; (rename Fr _ _ _ _ => lF'); (with_unfolding_all refine' For_turns lF' ?_; k_whole)))
          | (with_reducible (k_here; (with_reducible show wpAny _ _ (call (Value.ref 200) _ _) _ _ _); refine unhide ?_))
          | (with_reducible (k_here; (with_reducible show wpAny _ _ (call (Value.builtin "len") [Value.ref _]) _ _ _); k_dflt (refine' len_any ?k0 ?k1 ?k2 ?_; (case k0 => k_asm); (case k1 => (repeat (first | with_reducible assumption | with_reducible exact List.mem_cons_self .. | with_reducible refine List.mem_cons_of_mem _ ?_))); (case k2 => (simp only [List.size_toArray]; omega)); k_whole)))
          | ((with_reducible show wpAny _ _ (call (Value.builtin "list.append") _ _) _ _ _); with_reducible (k_here; refine unhide ?_))
          | ((with_reducible show wpAny _ _ (binaryOp Operator.Add (Value.ref _) (Value.ref _)) _ _ _); with_reducible (k_here; (with_reducible rename LoopTwo => lT'); refine unhide ?_))
          | ((with_reducible show wpAny _ _ (call (Value.builtin "isinstance") _ _) _ _ _); with_reducible (k_here; refine unhide ?_))
          | (with_reducible (k_here; (with_reducible show wpAny _ _ (call (Value.ref 193) _ _) _ _ _); refine unhide ?_))
          | (with_reducible (k_here; (with_reducible show wpAny _ _ (call (Value.ref 172) _ _) _ _ _); refine unhide ?_))
          | (with_reducible (k_here; (with_reducible show wpAny _ _ (call (Value.ref 165) _ _) _ _ _); refine unhide ?_))
          | (with_reducible (k_here; (with_reducible show wpAny _ _ (pyIter (Value.ref _)) _ _ _); refine unhide ?_))
          | ((with_reducible show wpAny _ _ (exec (Stmt.For (Expr.Tuple _ _ _) (Expr.Name _ _) (_ :: _) [] _) _) _ _ _); with_reducible (k_here; (rename Fr _ _ _ _ => lF'); (with_unfolding_all refine' For_turns lF' ?_; k_whole)))
          | ((with_reducible show wpAny _ _ (exec (Stmt.For (Expr.Name _ _) (Expr.Name _ _) (_ :: _) [] _) _) _ _ _); with_reducible (k_here; (rename Fr _ _ _ _ => lF'); (with_unfolding_all refine' For_turns lF' ?_; k_whole)))
          | ((with_reducible show wpAny _ _ (eval (Expr.ListComp _ _ _ _) _) _ _ _); with_reducible (k_here; k_dflt (refine LCg.ListComp_U (F₀ := by k_asm) (by rfl) (by decide) (by rfl) (by decide) (by rfl) (hide_src ?_))))
          | (with_reducible (k_here; (with_reducible show wpAny _ _ (call (Value.ref 186) _ _) _ _ _); refine unhide ?_))
          | ((with_reducible show wpAny _ _ (exec (Stmt.Assign [_] (Expr.ListComp _ _ _ _) _) _) _ _ _); with_reducible (k_here; k_dflt (refine LCg.Assign_ListComp_U (F₀ := by k_asm) (by rfl) (by with_unfolding_all rfl) (by rfl) (by decide) (by rfl) (by decide) (by rfl) (by rfl) (by rfl) (hide_src ?_))))
          | ((with_reducible show wpAny _ _ (leaving _ (Value.ref _)) _ _ _); with_reducible (k_here; k_dflt (first | (refine' leave_madeP ?k1 (Heap.MadeExc.of (by assumption)) ?k2 ?k3 ?_ ?k6 ?k5; (case k6 => exact rfl); (case k2 => assumption); (case k1 => assumption); (case k3 => k_asm); (case k5 => exact rfl); k_whole; intro h' t' R' U'; (try dsimp only at U' ⊢)) | (refine' leave_indexP ?k1 ?k0 ?k2 ?k3 ?_ ?k6 ?k5; (case k6 => exact rfl); (case k0 => assumption); (case k2 => assumption); (case k1 => assumption); (case k3 => k_asm); (case k5 => exact rfl); k_whole; intro h' R' U'; (try dsimp only at U' ⊢)) | (refine' leave_faultP ?k1 ?k0 ?k2 ?k3 ?_ ?k6 ?k5; (case k6 => exact rfl); (case k0 => assumption); (case k2 => assumption); (case k1 => assumption); (case k3 => k_asm); (case k5 => exact rfl); k_whole; intro h' t' dx' t1' t2' R' U'; (try dsimp only at U' ⊢)) | (refine' leaveOnP rfl ?k0 ?k1 ?k2 ?k3 ?k4 ?_; (case k3 => assumption); (case k0 => exact XIs.still (by assumption)); (case k1 => assumption); (case k2 => assumption); (case k4 => assumption); k_whole; intro h' R' U'; (try dsimp only at U' ⊢)))))
          | (with_reducible (k_here; (with_reducible show wpAny _ _ (call (Value.ref _) _ _) _ _ _); (with_reducible rename Does _ _ _ _ _ _ _ _ _ => hS); k_dflt (refine' hS _ _ _ _ _ _ _ _ _ _ _ _ _ _ _ _ _ _ _ _ _ _ _ _ _ _ ?B ?F ?X ?N ?T ?hk ?hd ?hu ?hn ?hI ?U ?_ ?_; (case B => k_asm); (case F => k_asm); (case X => k_asm); (case N => k_asm); (case T => k_asm); (case hk => exact rfl); (case hd => ((try dsimp only [ktrTop, Around.in1, Around.deeper]); omega)); (case hu => ((try dsimp only [ktrTop, Around.in1, Around.deeper]); omega)); (case hn => assumption); (case hI => assumption); (case U => assumption)); (try clear hS)))
          | walk1 | (dsimp only; walk1) | (leave1; (try dsimp only))))
        unfold Hide
        rename News _ _ _ (_ :: (D2, _) :: news2) => NB
        rename Fr _ _ _ _ => F12
        rename _ < _ ∧ AllLt _ news2 => l12
        obtain ⟨cs11, n11, mC11, hcs11, hold11⟩ := hNo
        have up12 : ∀ q ∈ nw10, q.1 ≠ _ → q ∈ news2 := fun q hq hn => hInv2.1 _ (hk2 _ (drop1_mem.mpr ⟨hq, hn⟩))
        obtain ⟨nw12, N12, mA12, mO12, mC12, m812, neOA, neO8, neA8, upK12, up12'⟩ := open_ans NB l12 (up12 _ pO (Nat.ne_of_lt l10.1)) (hInv2.1 _ mC11) (by omega) (up12 _ m8a n8C)
        have nHA := Nat.ne_of_lt (ktn_ltOf l12.2 _ (up12 _ mH10 nHC))
        have ncA := Nat.ne_of_lt (ktn_ltOf l12.2 _ (up12 _ mcH10 ncC))
        have nT1A := Nat.ne_of_lt (ktn_ltOf l12.2 _ (up12 _ mT110 nT1C))
        have nT2A := Nat.ne_of_lt (ktn_ltOf l12.2 _ (up12 _ mT210 nT2C))
        clear NB
        refine (let m12 : Str → Option Value := _; have F12L : Fr _ _ _ m12 := F12; ?_)
        clear F12
        refine iter_listTurns rfl F12L N12 (keepA_mem.mp mC12).1 rfl rfl (fun I lI => ?_)
        refine items_rest cs11 (AInv w9 _ _ _ xs9 _) (fun i m n h => ainv_mem h mC12) ?fin3 ?turn3 cs11.length 0 _ _ (Nat.zero_add _) (ainv_start2 mO12 m812 mA12) (fun p hp => Nat.ne_of_lt (lI p hp))
        case turn3 =>
          intro QR sR i m news7 v h tk o hv hInv7 off7 ho7 F7 N7
          obtain ⟨⟨u1, u2, u3, rfl⟩, ⟨vsO, nO, mO7, hiO⟩, ⟨ps7, m87, hT7⟩, ⟨as7, nA7, mA7, hlA7, hold7⟩, hk7⟩ := hInv7
          obtain ⟨x9, name9, its9, tn9, t19, t29, hx9, Ar9, rfl, m29, m19⟩ := hold11 i v hv
          have hi9 := (List.getElem?_eq_some_iff.mp hx9).1
          have m29k := upK12 _ (hInv2.1 _ m29) (ne_obj N12 (up12' _ (hInv2.1 _ m29)) mO12 (by simp)) (ne_obj N12 (up12' _ (hInv2.1 _ m29)) m812 (by simp))
          have m19k := upK12 _ (hInv2.1 _ m19) (ne_obj N12 (up12' _ (hInv2.1 _ m19)) mO12 (by simp)) (ne_obj N12 (up12' _ (hInv2.1 _ m19)) m812 (by simp))
          have hTup := tup_at N7 (.tail _ (hk7 _ m29k))
          have nt7 := ne_obj N7 (.tail _ (hk7 _ m19k)) (.tail _ mO7) (by simp)
          have nt8 := ne_obj N7 (.tail _ (hk7 _ m19k)) (.tail _ m87) (by simp)
          (repeat' (first
            | (k_unfold; (try dsimp only)) | (k_end; wrow_close)
            | ((with_reducible show wpAny _ _ (call (Value.type "enumerate") _ _) _ _ _); with_reducible (k_here; refine unhide ?_))
            | (with_reducible (k_here; (with_reducible show wpAny _ _ (getMethod (Value.ref _) (PySem.Str.ofString "append") _) _ _ _); k_dflt (refine' kl_method ?N ?m PySem.F.slot_list_append PySem.F.type_list_append ?_; (case N => k_asm); (case m => (repeat (first | with_reducible assumption | with_reducible exact List.mem_cons_self .. | with_reducible refine List.mem_cons_of_mem _ ?_))))))
            | ((with_reducible show wpAny _ _ (compareOp CmpOp.Eq (Value.ref _) (Value.ref _)) _ _ _); with_reducible (k_here; refine unhide ?_))
            | ((with_reducible show wpAny _ _ (compareOp CmpOp.NotEq (Value.ref _) (Value.ref _)) _ _ _); with_reducible (k_here; refine unhide ?_))
            | ((with_reducible show wpAny _ _ (subscriptTail (Expr.Name _ _) (Expr.Name _ _) (Value.ref _) (Value.int _ _)) _ _ _); with_reducible (k_here; refine unhide ?_))
            | ((with_reducible show wpAny _ _ (exec (Stmt.For (Expr.Name _ _) (Expr.List _ _) (_ :: _) [] _) _) _ _ _); with_reducible (k_here; (rename Fr _ _ _ _ => lF'); (with_unfolding_all refine' For_turns lF' ?_; k_whole)))
            | (with_reducible (k_here; (with_reducible show wpAny _ _ (call (Value.ref 200) _ _) _ _ _); refine unhide ?_))
            | (with_reducible (k_here; (with_reducible show wpAny _ _ (call (Value.builtin "len") [Value.ref _]) _ _ _); k_dflt (refine' len_any ?k0 ?k1 ?k2 ?_; (case k0 => k_asm); (case k1 => (repeat (first | with_reducible assumption | with_reducible exact List.mem_cons_self .. | with_reducible refine List.mem_cons_of_mem _ ?_))); (case k2 => (simp only [List.size_toArray]; omega)); k_whole)))
            | ((with_reducible show wpAny _ _ (call (Value.builtin "list.append") _ _) _ _ _); with_reducible (k_here; refine unhide ?_))
            | ((with_reducible show wpAny _ _ (binaryOp Operator.Add (Value.ref _) (Value.ref _)) _ _ _); with_reducible (k_here; (with_reducible rename LoopTwo => lT'); refine unhide ?_))
            | ((with_reducible show wpAny _ _ (call (Value.builtin "isinstance") _ _) _ _ _); with_reducible (k_here; refine unhide ?_))
            | (with_reducible (k_here; (with_reducible show wpAny _ _ (call (Value.ref 193) _ _) _ _ _); refine unhide ?_))
            | (with_reducible (k_here; (with_reducible show wpAny _ _ (call (Value.ref 172) _ _) _ _ _); refine unhide ?_))
            | (with_reducible (k_here; (with_reducible show wpAny _ _ (call (Value.ref 165) _ _) _ _ _); refine unhide ?_))
            | (with_reducible (k_here; (with_reducible show wpAny _ _ (pyIter (Value.ref _)) _ _ _); refine unhide ?_))
            | ((with_reducible show wpAny _ _ (exec (Stmt.For (Expr.Tuple _ _ _) (Expr.Name _ _) (_ :: _) [] _) _) _ _ _); with_reducible (k_here; (rename Fr _ _ _ _ => lF'); (with_unfolding_all refine' For_turns lF' ?_; k_whole)))
            | ((with_reducible show wpAny _ _ (exec (Stmt.For (Expr.Name _ _) (Expr.Name _ _) (_ :: _) [] _) _) _ _ _); with_reducible (k_here; (rename Fr _ _ _ _ => lF'); (with_unfolding_all refine' For_turns lF' ?_; k_whole)))
            | ((with_reducible show wpAny _ _ (eval (Expr.ListComp _ _ _ _) _) _ _ _); with_reducible (k_here; k_dflt (refine LCg.ListComp_U (F₀ := by k_asm) (by rfl) (by decide) (by rfl) (by decide) (by rfl) (hide_src ?_))))
            | (with_reducible (k_here; (with_reducible show wpAny _ _ (call (Value.ref 186) _ _) _ _ _); refine unhide ?_))
            | ((with_reducible show wpAny _ _ (exec (Stmt.Assign [_] (Expr.ListComp _ _ _ _) _) _) _ _ _); with_reducible (k_here; k_dflt (refine LCg.Assign_ListComp_U (F₀ := by k_asm) (by rfl) (by with_unfolding_all rfl) (by rfl) (by decide) (by rfl) (by decide) (by rfl) (by rfl) (by rfl) (hide_src ?_))))
            | ((with_reducible show wpAny _ _ (leaving _ (Value.ref _)) _ _ _); with_reducible (k_here; k_dflt (first | (refine' leave_madeP ?k1 (Heap.MadeExc.of (by assumption)) ?k2 ?k3 ?_ ?k6 ?k5; (case k6 => exact rfl); (case k2 => assumption); (case k1 => assumption); (case k3 => k_asm); (case k5 => exact rfl); k_whole; intro h' t' R' U'; (try dsimp only at U' ⊢)) | (refine' leave_indexP ?k1 ?k0 ?k2 ?k3 ?_ ?k6 ?k5; (case k6 => exact rfl); (case k0 => assumption); (case k2 => assumption); (case k1 => assumption); (case k3 => k_asm); (case k5 => exact rfl); k_whole; intro h' R' U'; (try dsimp only at U' ⊢)) | (refine' leave_faultP ?k1 ?k0 ?k2 ?k3 ?_ ?k6 ?k5; (case k6 => exact rfl); (case k0 => assumption); (case k2 => assumption); (case k1 => assumption); (case k3 => k_asm); (case k5 => exact rfl); k_whole; intro h' t' dx' t1' t2' R' U'; (try dsimp only at U' ⊢)) | (refine' leaveOnP rfl ?k0 ?k1 ?k2 ?k3 ?k4 ?_; (case k3 => assumption); (case k0 => exact XIs.still (by assumption)); (case k1 => assumption); (case k2 => assumption); (case k4 => assumption); k_whole; intro h' R' U'; (try dsimp only at U' ⊢)))))
            | (with_reducible (k_here; (with_reducible show wpAny _ _ (call (Value.ref _) _ _) _ _ _); (with_reducible rename Does _ _ _ _ _ _ _ _ _ => hS); k_dflt (refine' hS _ _ _ _ _ _ _ _ _ _ _ _ _ _ _ _ _ _ _ _ _ _ _ _ _ _ ?B ?F ?X ?N ?T ?hk ?hd ?hu ?hn ?hI ?U ?_ ?_; (case B => k_asm); (case F => k_asm); (case X => k_asm); (case N => k_asm); (case T => k_asm); (case hk => exact rfl); (case hd => ((try dsimp only [ktrTop, Around.in1, Around.deeper]); omega)); (case hu => ((try dsimp only [ktrTop, Around.in1, Around.deeper]); omega)); (case hn => assumption); (case hI => assumption); (case U => assumption)); (try clear hS)))
            | walk1 | (dsimp only; walk1) | (leave1; (try dsimp only))))
          unfold Hide
          rename News _ _ _ ((I, o) :: news7) => N7b
          obtain ⟨nw8, N8, P8, s8⟩ := preS_of (pos := pos2) (qual := qual2) (nw := [(t19, tupOf its9)]) N7b (.tail _ mO7) (.tail _ m87) hiO hT7 (fun q hq => .tail _ (drop1_mem.mp hq).1) (fun q hq => by rw [List.mem_singleton.mp hq]; exact .tail _ (hk7 _ m19k)) (fun q hq => by rw [List.mem_singleton.mp hq]; exact ⟨nt7, nt8⟩)
          refine' worked_use hx9 hx67 Ar9 _ _ _ _ _ _ _ _ _ _ _ _ _ _ _ _ _ _ _ _ _ _ _ ?B ?F ?X N8 ?T ?XB ?TB ?D rfl ?hd ?hu P8 ?_
          (case B => k_asm)
          (case F => k_asm)
          (case X => k_asm)
          (case T => k_asm)
          (case XB => k_asm)
          (case TB => k_asm)
          (case D => exact ktsDicts_nil)
          (case hd => exact Nat.le_of_ble_eq_true rfl)
          (case hu => exact Nat.le_of_ble_eq_true rfl)
          intro h₁ h5 tk5 v5 nx5 R5 T5 B5 F5 X5 N5 P5 D5
          replace F5 := turn_fr T5 F5
          replace N5 := turn_news T5 N5
          clear B5 X5 P5 D5 T5
          obtain ⟨vs5, k5, ps5, o51, o52, o53, o54, o55, R5, R5s, R5a, res5⟩ := R5
          have mA5 := o55 _ (s8 _ (.tail _ mA7)) (Ne.symm neOA) neA8
          obtain ⟨nw6, g6, N6, U6, i6, m6, e6, b6, lt6⟩ := headedG N5 mA5
          have xI5 := o55 _ (s8 _ (.head _)) (Ne.symm (off7 _ mO7)) (Ne.symm (off7 _ m87))
          dsimp only
          rcases res_split res5 with ⟨v0, l0, rfl, hl0, toA⟩ | ⟨d0, es0, nd0, rfl, hm0, toA⟩
          case inl =>
            have ml6 := i6 _ (R5s _ hl0) (Nat.ne_of_gt (R5a _ hl0 _ (s8 _ (.tail _ mA7))))
            clear N5
            (repeat' (first
              | (k_unfold; (try dsimp only)) | (k_end; wrow_close)
              | ((with_reducible show wpAny _ _ (call (Value.type "enumerate") _ _) _ _ _); with_reducible (k_here; refine unhide ?_))
              | (with_reducible (k_here; (with_reducible show wpAny _ _ (getMethod (Value.ref _) (PySem.Str.ofString "append") _) _ _ _); k_dflt (refine' kl_method ?N ?m PySem.F.slot_list_append PySem.F.type_list_append ?_; (case N => k_asm); (case m => (repeat (first | with_reducible assumption | with_reducible exact List.mem_cons_self .. | with_reducible refine List.mem_cons_of_mem _ ?_))))))
              | ((with_reducible show wpAny _ _ (compareOp CmpOp.Eq (Value.ref _) (Value.ref _)) _ _ _); with_reducible (k_here; refine unhide ?_))
              | ((with_reducible show wpAny _ _ (compareOp CmpOp.NotEq (Value.ref _) (Value.ref _)) _ _ _); with_reducible (k_here; refine unhide ?_))
              | ((with_reducible show wpAny _ _ (subscriptTail (Expr.Name _ _) (Expr.Name _ _) (Value.ref _) (Value.int _ _)) _ _ _); with_reducible (k_here; refine unhide ?_))
              | ((with_reducible show wpAny _ _ (exec (Stmt.For (Expr.Name _ _) (Expr.List _ _) (_ :: _) [] _) _) _ _ _); with_reducible (k_here; (rename Fr _ _ _ _ => lF'); (with_unfolding_all refine' For_turns lF' ?_; k_whole)))
              | (with_reducible (k_here; (with_reducible show wpAny _ _ (call (Value.ref 200) _ _) _ _ _); refine unhide ?_))
              | (with_reducible (k_here; (with_reducible show wpAny _ _ (call (Value.builtin "len") [Value.ref _]) _ _ _); k_dflt (refine' len_any ?k0 ?k1 ?k2 ?_; (case k0 => k_asm); (case k1 => (repeat (first | with_reducible assumption | with_reducible exact List.mem_cons_self .. | with_reducible refine List.mem_cons_of_mem _ ?_))); (case k2 => (simp only [List.size_toArray]; omega)); k_whole)))
              | ((with_reducible show wpAny _ _ (call (Value.builtin "list.append") _ _) _ _ _); with_reducible (k_here; refine unhide ?_))
              | ((with_reducible show wpAny _ _ (binaryOp Operator.Add (Value.ref _) (Value.ref _)) _ _ _); with_reducible (k_here; (with_reducible rename LoopTwo => lT'); refine unhide ?_))
              | ((with_reducible show wpAny _ _ (call (Value.builtin "isinstance") _ _) _ _ _); with_reducible (k_here; refine unhide ?_))
              | (with_reducible (k_here; (with_reducible show wpAny _ _ (call (Value.ref 193) _ _) _ _ _); refine unhide ?_))
              | (with_reducible (k_here; (with_reducible show wpAny _ _ (call (Value.ref 172) _ _) _ _ _); refine unhide ?_))
              | (with_reducible (k_here; (with_reducible show wpAny _ _ (call (Value.ref 165) _ _) _ _ _); refine unhide ?_))
              | (with_reducible (k_here; (with_reducible show wpAny _ _ (pyIter (Value.ref _)) _ _ _); refine unhide ?_))
              | ((with_reducible show wpAny _ _ (exec (Stmt.For (Expr.Tuple _ _ _) (Expr.Name _ _) (_ :: _) [] _) _) _ _ _); with_reducible (k_here; (rename Fr _ _ _ _ => lF'); (with_unfolding_all refine' For_turns lF' ?_; k_whole)))
              | ((with_reducible show wpAny _ _ (exec (Stmt.For (Expr.Name _ _) (Expr.Name _ _) (_ :: _) [] _) _) _ _ _); with_reducible (k_here; (rename Fr _ _ _ _ => lF'); (with_unfolding_all refine' For_turns lF' ?_; k_whole)))
              | ((with_reducible show wpAny _ _ (eval (Expr.ListComp _ _ _ _) _) _ _ _); with_reducible (k_here; k_dflt (refine LCg.ListComp_U (F₀ := by k_asm) (by rfl) (by decide) (by rfl) (by decide) (by rfl) (hide_src ?_))))
              | (with_reducible (k_here; (with_reducible show wpAny _ _ (call (Value.ref 186) _ _) _ _ _); refine unhide ?_))
              | ((with_reducible show wpAny _ _ (exec (Stmt.Assign [_] (Expr.ListComp _ _ _ _) _) _) _ _ _); with_reducible (k_here; k_dflt (refine LCg.Assign_ListComp_U (F₀ := by k_asm) (by rfl) (by with_unfolding_all rfl) (by rfl) (by decide) (by rfl) (by decide) (by rfl) (by rfl) (by rfl) (hide_src ?_))))
              | ((with_reducible show wpAny _ _ (leaving _ (Value.ref _)) _ _ _); with_reducible (k_here; k_dflt (first | (refine' leave_madeP ?k1 (Heap.MadeExc.of (by assumption)) ?k2 ?k3 ?_ ?k6 ?k5; (case k6 => exact rfl); (case k2 => assumption); (case k1 => assumption); (case k3 => k_asm); (case k5 => exact rfl); k_whole; intro h' t' R' U'; (try dsimp only at U' ⊢)) | (refine' leave_indexP ?k1 ?k0 ?k2 ?k3 ?_ ?k6 ?k5; (case k6 => exact rfl); (case k0 => assumption); (case k2 => assumption); (case k1 => assumption); (case k3 => k_asm); (case k5 => exact rfl); k_whole; intro h' R' U'; (try dsimp only at U' ⊢)) | (refine' leave_faultP ?k1 ?k0 ?k2 ?k3 ?_ ?k6 ?k5; (case k6 => exact rfl); (case k0 => assumption); (case k2 => assumption); (case k1 => assumption); (case k3 => k_asm); (case k5 => exact rfl); k_whole; intro h' t' dx' t1' t2' R' U'; (try dsimp only at U' ⊢)) | (refine' leaveOnP rfl ?k0 ?k1 ?k2 ?k3 ?k4 ?_; (case k3 => assumption); (case k0 => exact XIs.still (by assumption)); (case k1 => assumption); (case k2 => assumption); (case k4 => assumption); k_whole; intro h' R' U'; (try dsimp only at U' ⊢)))))
              | (with_reducible (k_here; (with_reducible show wpAny _ _ (call (Value.ref _) _ _) _ _ _); (with_reducible rename Does _ _ _ _ _ _ _ _ _ => hS); k_dflt (refine' hS _ _ _ _ _ _ _ _ _ _ _ _ _ _ _ _ _ _ _ _ _ _ _ _ _ _ ?B ?F ?X ?N ?T ?hk ?hd ?hu ?hn ?hI ?U ?_ ?_; (case B => k_asm); (case F => k_asm); (case X => k_asm); (case N => k_asm); (case T => k_asm); (case hk => exact rfl); (case hd => ((try dsimp only [ktrTop, Around.in1, Around.deeper]); omega)); (case hu => ((try dsimp only [ktrTop, Around.in1, Around.deeper]); omega)); (case hn => assumption); (case hI => assumption); (case U => assumption)); (try clear hS)))
              | walk1 | (dsimp only; walk1) | (leave1; (try dsimp only))))
            unfold Hide
            rename News _ _ _ nw6 => N6b
            refine isi_ll N6b ml6 ?_
            have hLT : LoopTwo := trivial
            (repeat' (first
              | (k_unfold; (try dsimp only)) | (k_end; wrow_close)
              | ((with_reducible show wpAny _ _ (call (Value.type "enumerate") _ _) _ _ _); with_reducible (k_here; refine unhide ?_))
              | (with_reducible (k_here; (with_reducible show wpAny _ _ (getMethod (Value.ref _) (PySem.Str.ofString "append") _) _ _ _); k_dflt (refine' kl_method ?N ?m PySem.F.slot_list_append PySem.F.type_list_append ?_; (case N => k_asm); (case m => (repeat (first | with_reducible assumption | with_reducible exact List.mem_cons_self .. | with_reducible refine List.mem_cons_of_mem _ ?_))))))
              | ((with_reducible show wpAny _ _ (compareOp CmpOp.Eq (Value.ref _) (Value.ref _)) _ _ _); with_reducible (k_here; refine unhide ?_))
              | ((with_reducible show wpAny _ _ (compareOp CmpOp.NotEq (Value.ref _) (Value.ref _)) _ _ _); with_reducible (k_here; refine unhide ?_))
              | ((with_reducible show wpAny _ _ (subscriptTail (Expr.Name _ _) (Expr.Name _ _) (Value.ref _) (Value.int _ _)) _ _ _); with_reducible (k_here; refine unhide ?_))
              | ((with_reducible show wpAny _ _ (exec (Stmt.For (Expr.Name _ _) (Expr.List _ _) (_ :: _) [] _) _) _ _ _); with_reducible (k_here; (rename Fr _ _ _ _ => lF'); (with_unfolding_all refine' For_turns lF' ?_; k_whole)))
              | (with_reducible (k_here; (with_reducible show wpAny _ _ (call (Value.ref 200) _ _) _ _ _); refine unhide ?_))
              | (with_reducible (k_here; (with_reducible show wpAny _ _ (call (Value.builtin "len") [Value.ref _]) _ _ _); k_dflt (refine' len_any ?k0 ?k1 ?k2 ?_; (case k0 => k_asm); (case k1 => (repeat (first | with_reducible assumption | with_reducible exact List.mem_cons_self .. | with_reducible refine List.mem_cons_of_mem _ ?_))); (case k2 => (simp only [List.size_toArray]; omega)); k_whole)))
              | ((with_reducible show wpAny _ _ (call (Value.builtin "list.append") _ _) _ _ _); with_reducible (k_here; refine unhide ?_))
              | ((with_reducible show wpAny _ _ (binaryOp Operator.Add (Value.ref _) (Value.ref _)) _ _ _); with_reducible (k_here; (with_reducible rename LoopTwo => lT'); refine unhide ?_))
              | ((with_reducible show wpAny _ _ (call (Value.builtin "isinstance") _ _) _ _ _); with_reducible (k_here; refine unhide ?_))
              | (with_reducible (k_here; (with_reducible show wpAny _ _ (call (Value.ref 193) _ _) _ _ _); refine unhide ?_))
              | (with_reducible (k_here; (with_reducible show wpAny _ _ (call (Value.ref 172) _ _) _ _ _); refine unhide ?_))
              | (with_reducible (k_here; (with_reducible show wpAny _ _ (call (Value.ref 165) _ _) _ _ _); refine unhide ?_))
              | (with_reducible (k_here; (with_reducible show wpAny _ _ (pyIter (Value.ref _)) _ _ _); refine unhide ?_))
              | ((with_reducible show wpAny _ _ (exec (Stmt.For (Expr.Tuple _ _ _) (Expr.Name _ _) (_ :: _) [] _) _) _ _ _); with_reducible (k_here; (rename Fr _ _ _ _ => lF'); (with_unfolding_all refine' For_turns lF' ?_; k_whole)))
              | ((with_reducible show wpAny _ _ (exec (Stmt.For (Expr.Name _ _) (Expr.Name _ _) (_ :: _) [] _) _) _ _ _); with_reducible (k_here; (rename Fr _ _ _ _ => lF'); (with_unfolding_all refine' For_turns lF' ?_; k_whole)))
              | ((with_reducible show wpAny _ _ (eval (Expr.ListComp _ _ _ _) _) _ _ _); with_reducible (k_here; k_dflt (refine LCg.ListComp_U (F₀ := by k_asm) (by rfl) (by decide) (by rfl) (by decide) (by rfl) (hide_src ?_))))
              | (with_reducible (k_here; (with_reducible show wpAny _ _ (call (Value.ref 186) _ _) _ _ _); refine unhide ?_))
              | ((with_reducible show wpAny _ _ (exec (Stmt.Assign [_] (Expr.ListComp _ _ _ _) _) _) _ _ _); with_reducible (k_here; k_dflt (refine LCg.Assign_ListComp_U (F₀ := by k_asm) (by rfl) (by with_unfolding_all rfl) (by rfl) (by decide) (by rfl) (by decide) (by rfl) (by rfl) (by rfl) (hide_src ?_))))
              | ((with_reducible show wpAny _ _ (leaving _ (Value.ref _)) _ _ _); with_reducible (k_here; k_dflt (first | (refine' leave_madeP ?k1 (Heap.MadeExc.of (by assumption)) ?k2 ?k3 ?_ ?k6 ?k5; (case k6 => exact rfl); (case k2 => assumption); (case k1 => assumption); (case k3 => k_asm); (case k5 => exact rfl); k_whole; intro h' t' R' U'; (try dsimp only at U' ⊢)) | (refine' leave_indexP ?k1 ?k0 ?k2 ?k3 ?_ ?k6 ?k5; (case k6 => exact rfl); (case k0 => assumption); (case k2 => assumption); (case k1 => assumption); (case k3 => k_asm); (case k5 => exact rfl); k_whole; intro h' R' U'; (try dsimp only at U' ⊢)) | (refine' leave_faultP ?k1 ?k0 ?k2 ?k3 ?_ ?k6 ?k5; (case k6 => exact rfl); (case k0 => assumption); (case k2 => assumption); (case k1 => assumption); (case k3 => k_asm); (case k5 => exact rfl); k_whole; intro h' t' dx' t1' t2' R' U'; (try dsimp only at U' ⊢)) | (refine' leaveOnP rfl ?k0 ?k1 ?k2 ?k3 ?k4 ?_; (case k3 => assumption); (case k0 => exact XIs.still (by assumption)); (case k1 => assumption); (case k2 => assumption); (case k4 => assumption); k_whole; intro h' R' U'; (try dsimp only at U' ⊢)))))
              | (with_reducible (k_here; (with_reducible show wpAny _ _ (call (Value.ref _) _ _) _ _ _); (with_reducible rename Does _ _ _ _ _ _ _ _ _ => hS); k_dflt (refine' hS _ _ _ _ _ _ _ _ _ _ _ _ _ _ _ _ _ _ _ _ _ _ _ _ _ _ ?B ?F ?X ?N ?T ?hk ?hd ?hu ?hn ?hI ?U ?_ ?_; (case B => k_asm); (case F => k_asm); (case X => k_asm); (case N => k_asm); (case T => k_asm); (case hk => exact rfl); (case hd => ((try dsimp only [ktrTop, Around.in1, Around.deeper]); omega)); (case hu => ((try dsimp only [ktrTop, Around.in1, Around.deeper]); omega)); (case hn => assumption); (case hI => assumption); (case U => assumption)); (try clear hS)))
              | walk1 | (dsimp only; walk1) | (leave1; (try dsimp only))))
            unfold Hide
            rename News _ _ _ (_ :: nw6) => N6c
            rename ∀ p ∈ nw6, _ => lt61
            refine kmk_add_lit (F := by k_asm) N6c (lst_of N6c (.tail _ ml6)) (lst_of N6c (.head _)) rfl ?_ (by simp [sizeLine])
            intro l2 h72 F72 N72 lt62
            (try dsimp only)
            (repeat' (first
              | (k_unfold; (try dsimp only)) | (k_end; wrow_close)
              | ((with_reducible show wpAny _ _ (call (Value.type "enumerate") _ _) _ _ _); with_reducible (k_here; refine unhide ?_))
              | (with_reducible (k_here; (with_reducible show wpAny _ _ (getMethod (Value.ref _) (PySem.Str.ofString "append") _) _ _ _); k_dflt (refine' kl_method ?N ?m PySem.F.slot_list_append PySem.F.type_list_append ?_; (case N => k_asm); (case m => (repeat (first | with_reducible assumption | with_reducible exact List.mem_cons_self .. | with_reducible refine List.mem_cons_of_mem _ ?_))))))
              | ((with_reducible show wpAny _ _ (compareOp CmpOp.Eq (Value.ref _) (Value.ref _)) _ _ _); with_reducible (k_here; refine unhide ?_))
              | ((with_reducible show wpAny _ _ (compareOp CmpOp.NotEq (Value.ref _) (Value.ref _)) _ _ _); with_reducible (k_here; refine unhide ?_))
              | ((with_reducible show wpAny _ _ (subscriptTail (Expr.Name _ _) (Expr.Name _ _) (Value.ref _) (Value.int _ _)) _ _ _); with_reducible (k_here; refine unhide ?_))
              | ((with_reducible show wpAny _ _ (exec (Stmt.For (Expr.Name _ _) (Expr.List _ _) (_ :: _) [] _) _) _ _ _); with_reducible (k_here; (rename Fr _ _ _ _ => lF'); (with_unfolding_all refine' For_turns lF' ?_; k_whole)))
              | (with_reducible (k_here; (with_reducible show wpAny _ _ (call (Value.ref 200) _ _) _ _ _); refine unhide ?_))
              | (with_reducible (k_here; (with_reducible show wpAny _ _ (call (Value.builtin "len") [Value.ref _]) _ _ _); k_dflt (refine' len_any ?k0 ?k1 ?k2 ?_; (case k0 => k_asm); (case k1 => (repeat (first | with_reducible assumption | with_reducible exact List.mem_cons_self .. | with_reducible refine List.mem_cons_of_mem _ ?_))); (case k2 => (simp only [List.size_toArray]; omega)); k_whole)))
              | ((with_reducible show wpAny _ _ (call (Value.builtin "list.append") _ _) _ _ _); with_reducible (k_here; refine unhide ?_))
              | ((with_reducible show wpAny _ _ (binaryOp Operator.Add (Value.ref _) (Value.ref _)) _ _ _); with_reducible (k_here; (with_reducible rename LoopTwo => lT'); refine unhide ?_))
              | ((with_reducible show wpAny _ _ (call (Value.builtin "isinstance") _ _) _ _ _); with_reducible (k_here; refine unhide ?_))
              | (with_reducible (k_here; (with_reducible show wpAny _ _ (call (Value.ref 193) _ _) _ _ _); refine unhide ?_))
              | (with_reducible (k_here; (with_reducible show wpAny _ _ (call (Value.ref 172) _ _) _ _ _); refine unhide ?_))
              | (with_reducible (k_here; (with_reducible show wpAny _ _ (call (Value.ref 165) _ _) _ _ _); refine unhide ?_))
              | (with_reducible (k_here; (with_reducible show wpAny _ _ (pyIter (Value.ref _)) _ _ _); refine unhide ?_))
              | ((with_reducible show wpAny _ _ (exec (Stmt.For (Expr.Tuple _ _ _) (Expr.Name _ _) (_ :: _) [] _) _) _ _ _); with_reducible (k_here; (rename Fr _ _ _ _ => lF'); (with_unfolding_all refine' For_turns lF' ?_; k_whole)))
              | ((with_reducible show wpAny _ _ (exec (Stmt.For (Expr.Name _ _) (Expr.Name _ _) (_ :: _) [] _) _) _ _ _); with_reducible (k_here; (rename Fr _ _ _ _ => lF'); (with_unfolding_all refine' For_turns lF' ?_; k_whole)))
              | ((with_reducible show wpAny _ _ (eval (Expr.ListComp _ _ _ _) _) _ _ _); with_reducible (k_here; k_dflt (refine LCg.ListComp_U (F₀ := by k_asm) (by rfl) (by decide) (by rfl) (by decide) (by rfl) (hide_src ?_))))
              | (with_reducible (k_here; (with_reducible show wpAny _ _ (call (Value.ref 186) _ _) _ _ _); refine unhide ?_))
              | ((with_reducible show wpAny _ _ (exec (Stmt.Assign [_] (Expr.ListComp _ _ _ _) _) _) _ _ _); with_reducible (k_here; k_dflt (refine LCg.Assign_ListComp_U (F₀ := by k_asm) (by rfl) (by with_unfolding_all rfl) (by rfl) (by decide) (by rfl) (by decide) (by rfl) (by rfl) (by rfl) (hide_src ?_))))
              | ((with_reducible show wpAny _ _ (leaving _ (Value.ref _)) _ _ _); with_reducible (k_here; k_dflt (first | (refine' leave_madeP ?k1 (Heap.MadeExc.of (by assumption)) ?k2 ?k3 ?_ ?k6 ?k5; (case k6 => exact rfl); (case k2 => assumption); (case k1 => assumption); (case k3 => k_asm); (case k5 => exact rfl); k_whole; intro h' t' R' U'; (try dsimp only at U' ⊢)) | (refine' leave_indexP ?k1 ?k0 ?k2 ?k3 ?_ ?k6 ?k5; (case k6 => exact rfl); (case k0 => assumption); (case k2 => assumption); (case k1 => assumption); (case k3 => k_asm); (case k5 => exact rfl); k_whole; intro h' R' U'; (try dsimp only at U' ⊢)) | (refine' leave_faultP ?k1 ?k0 ?k2 ?k3 ?_ ?k6 ?k5; (case k6 => exact rfl); (case k0 => assumption); (case k2 => assumption); (case k1 => assumption); (case k3 => k_asm); (case k5 => exact rfl); k_whole; intro h' t' dx' t1' t2' R' U'; (try dsimp only at U' ⊢)) | (refine' leaveOnP rfl ?k0 ?k1 ?k2 ?k3 ?k4 ?_; (case k3 => assumption); (case k0 => exact XIs.still (by assumption)); (case k1 => assumption); (case k2 => assumption); (case k4 => assumption); k_whole; intro h' R' U'; (try dsimp only at U' ⊢)))))
              | (with_reducible (k_here; (with_reducible show wpAny _ _ (call (Value.ref _) _ _) _ _ _); (with_reducible rename Does _ _ _ _ _ _ _ _ _ => hS); k_dflt (refine' hS _ _ _ _ _ _ _ _ _ _ _ _ _ _ _ _ _ _ _ _ _ _ _ _ _ _ ?B ?F ?X ?N ?T ?hk ?hd ?hu ?hn ?hI ?U ?_ ?_; (case B => k_asm); (case F => k_asm); (case X => k_asm); (case N => k_asm); (case T => k_asm); (case hk => exact rfl); (case hd => ((try dsimp only [ktrTop, Around.in1, Around.deeper]); omega)); (case hu => ((try dsimp only [ktrTop, Around.in1, Around.deeper]); omega)); (case hn => assumption); (case hI => assumption); (case U => assumption)); (try clear hS)))
              | walk1 | (dsimp only; walk1) | (leave1; (try dsimp only))))
            unfold Hide
            refine app_U F72 N72 (.tail (Nat.ne_of_gt (lt62 _ (.tail _ m6))) (.tail (Nat.ne_of_gt (lt61 _ m6)) U6)) (by omega) ?_
            intro h8 F8 N8 U8 m8
            rw [e6] at N8
            (try dsimp only)
            (repeat' (first
              | (k_unfold; (try dsimp only)) | (k_end; wrow_close)
              | ((with_reducible show wpAny _ _ (call (Value.type "enumerate") _ _) _ _ _); with_reducible (k_here; refine unhide ?_))
              | (with_reducible (k_here; (with_reducible show wpAny _ _ (getMethod (Value.ref _) (PySem.Str.ofString "append") _) _ _ _); k_dflt (refine' kl_method ?N ?m PySem.F.slot_list_append PySem.F.type_list_append ?_; (case N => k_asm); (case m => (repeat (first | with_reducible assumption | with_reducible exact List.mem_cons_self .. | with_reducible refine List.mem_cons_of_mem _ ?_))))))
              | ((with_reducible show wpAny _ _ (compareOp CmpOp.Eq (Value.ref _) (Value.ref _)) _ _ _); with_reducible (k_here; refine unhide ?_))
              | ((with_reducible show wpAny _ _ (compareOp CmpOp.NotEq (Value.ref _) (Value.ref _)) _ _ _); with_reducible (k_here; refine unhide ?_))
              | ((with_reducible show wpAny _ _ (subscriptTail (Expr.Name _ _) (Expr.Name _ _) (Value.ref _) (Value.int _ _)) _ _ _); with_reducible (k_here; refine unhide ?_))
              | ((with_reducible show wpAny _ _ (exec (Stmt.For (Expr.Name _ _) (Expr.List _ _) (_ :: _) [] _) _) _ _ _); with_reducible (k_here; (rename Fr _ _ _ _ => lF'); (with_unfolding_all refine' For_turns lF' ?_; k_whole)))
              | (with_reducible (k_here; (with_reducible show wpAny _ _ (call (Value.ref 200) _ _) _ _ _); refine unhide ?_))
              | (with_reducible (k_here; (with_reducible show wpAny _ _ (call (Value.builtin "len") [Value.ref _]) _ _ _); k_dflt (refine' len_any ?k0 ?k1 ?k2 ?_; (case k0 => k_asm); (case k1 => (repeat (first | with_reducible assumption | with_reducible exact List.mem_cons_self .. | with_reducible refine List.mem_cons_of_mem _ ?_))); (case k2 => (simp only [List.size_toArray]; omega)); k_whole)))
              | ((with_reducible show wpAny _ _ (call (Value.builtin "list.append") _ _) _ _ _); with_reducible (k_here; refine unhide ?_))
              | ((with_reducible show wpAny _ _ (binaryOp Operator.Add (Value.ref _) (Value.ref _)) _ _ _); with_reducible (k_here; (with_reducible rename LoopTwo => lT'); refine unhide ?_))
              | ((with_reducible show wpAny _ _ (call (Value.builtin "isinstance") _ _) _ _ _); with_reducible (k_here; refine unhide ?_))
              | (with_reducible (k_here; (with_reducible show wpAny _ _ (call (Value.ref 193) _ _) _ _ _); refine unhide ?_))
              | (with_reducible (k_here; (with_reducible show wpAny _ _ (call (Value.ref 172) _ _) _ _ _); refine unhide ?_))
              | (with_reducible (k_here; (with_reducible show wpAny _ _ (call (Value.ref 165) _ _) _ _ _); refine unhide ?_))
              | (with_reducible (k_here; (with_reducible show wpAny _ _ (pyIter (Value.ref _)) _ _ _); refine unhide ?_))
              | ((with_reducible show wpAny _ _ (exec (Stmt.For (Expr.Tuple _ _ _) (Expr.Name _ _) (_ :: _) [] _) _) _ _ _); with_reducible (k_here; (rename Fr _ _ _ _ => lF'); (with_unfolding_all refine' For_turns lF' ?_; k_whole)))
              | ((with_reducible show wpAny _ _ (exec (Stmt.For (Expr.Name _ _) (Expr.Name _ _) (_ :: _) [] _) _) _ _ _); with_reducible (k_here; (rename Fr _ _ _ _ => lF'); (with_unfolding_all refine' For_turns lF' ?_; k_whole)))
              | ((with_reducible show wpAny _ _ (eval (Expr.ListComp _ _ _ _) _) _ _ _); with_reducible (k_here; k_dflt (refine LCg.ListComp_U (F₀ := by k_asm) (by rfl) (by decide) (by rfl) (by decide) (by rfl) (hide_src ?_))))
              | (with_reducible (k_here; (with_reducible show wpAny _ _ (call (Value.ref 186) _ _) _ _ _); refine unhide ?_))
              | ((with_reducible show wpAny _ _ (exec (Stmt.Assign [_] (Expr.ListComp _ _ _ _) _) _) _ _ _); with_reducible (k_here; k_dflt (refine LCg.Assign_ListComp_U (F₀ := by k_asm) (by rfl) (by with_unfolding_all rfl) (by rfl) (by decide) (by rfl) (by decide) (by rfl) (by rfl) (by rfl) (hide_src ?_))))
              | ((with_reducible show wpAny _ _ (leaving _ (Value.ref _)) _ _ _); with_reducible (k_here; k_dflt (first | (refine' leave_madeP ?k1 (Heap.MadeExc.of (by assumption)) ?k2 ?k3 ?_ ?k6 ?k5; (case k6 => exact rfl); (case k2 => assumption); (case k1 => assumption); (case k3 => k_asm); (case k5 => exact rfl); k_whole; intro h' t' R' U'; (try dsimp only at U' ⊢)) | (refine' leave_indexP ?k1 ?k0 ?k2 ?k3 ?_ ?k6 ?k5; (case k6 => exact rfl); (case k0 => assumption); (case k2 => assumption); (case k1 => assumption); (case k3 => k_asm); (case k5 => exact rfl); k_whole; intro h' R' U'; (try dsimp only at U' ⊢)) | (refine' leave_faultP ?k1 ?k0 ?k2 ?k3 ?_ ?k6 ?k5; (case k6 => exact rfl); (case k0 => assumption); (case k2 => assumption); (case k1 => assumption); (case k3 => k_asm); (case k5 => exact rfl); k_whole; intro h' t' dx' t1' t2' R' U'; (try dsimp only at U' ⊢)) | (refine' leaveOnP rfl ?k0 ?k1 ?k2 ?k3 ?k4 ?_; (case k3 => assumption); (case k0 => exact XIs.still (by assumption)); (case k1 => assumption); (case k2 => assumption); (case k4 => assumption); k_whole; intro h' R' U'; (try dsimp only at U' ⊢)))))
              | (with_reducible (k_here; (with_reducible show wpAny _ _ (call (Value.ref _) _ _) _ _ _); (with_reducible rename Does _ _ _ _ _ _ _ _ _ => hS); k_dflt (refine' hS _ _ _ _ _ _ _ _ _ _ _ _ _ _ _ _ _ _ _ _ _ _ _ _ _ _ ?B ?F ?X ?N ?T ?hk ?hd ?hu ?hn ?hI ?U ?_ ?_; (case B => k_asm); (case F => k_asm); (case X => k_asm); (case N => k_asm); (case T => k_asm); (case hk => exact rfl); (case hd => ((try dsimp only [ktrTop, Around.in1, Around.deeper]); omega)); (case hu => ((try dsimp only [ktrTop, Around.in1, Around.deeper]); omega)); (case hn => assumption); (case hI => assumption); (case U => assumption)); (try clear hS)))
              | walk1 | (dsimp only; walk1) | (leave1; (try dsimp only))))
            exact endW F8 N8 (ainv_in (ex := [_, _]) xI5 (Ne.symm (off7 _ mA7))) (ainv_step (ex := [_, _]) frm3_next off7 neOA neO8 neA8 mO7 m87 mA7 hlA7 hold7 hk7 keepA_ne s8 o51 o52 o53 o54 o55 (fr_two (lt6 _ fun p hp => lt62 p (.tail _ hp)) (lt6 _ lt61)) (r_tail R5s R5a (.head _)) (toA _ _ _ _ (fun q hq => .tail _ hq) (.head _)))
          case inr =>
            have ml6 := i6 _ (R5s _ hm0) (Nat.ne_of_gt (R5a _ hm0 _ (s8 _ (.tail _ mA7))))
            clear N5
            (repeat' (first
              | (k_unfold; (try dsimp only)) | (k_end; wrow_close)
              | ((with_reducible show wpAny _ _ (call (Value.type "enumerate") _ _) _ _ _); with_reducible (k_here; refine unhide ?_))
              | (with_reducible (k_here; (with_reducible show wpAny _ _ (getMethod (Value.ref _) (PySem.Str.ofString "append") _) _ _ _); k_dflt (refine' kl_method ?N ?m PySem.F.slot_list_append PySem.F.type_list_append ?_; (case N => k_asm); (case m => (repeat (first | with_reducible assumption | with_reducible exact List.mem_cons_self .. | with_reducible refine List.mem_cons_of_mem _ ?_))))))
              | ((with_reducible show wpAny _ _ (compareOp CmpOp.Eq (Value.ref _) (Value.ref _)) _ _ _); with_reducible (k_here; refine unhide ?_))
              | ((with_reducible show wpAny _ _ (compareOp CmpOp.NotEq (Value.ref _) (Value.ref _)) _ _ _); with_reducible (k_here; refine unhide ?_))
              | ((with_reducible show wpAny _ _ (subscriptTail (Expr.Name _ _) (Expr.Name _ _) (Value.ref _) (Value.int _ _)) _ _ _); with_reducible (k_here; refine unhide ?_))
              | ((with_reducible show wpAny _ _ (exec (Stmt.For (Expr.Name _ _) (Expr.List _ _) (_ :: _) [] _) _) _ _ _); with_reducible (k_here; (rename Fr _ _ _ _ => lF'); (with_unfolding_all refine' For_turns lF' ?_; k_whole)))
              | (with_reducible (k_here; (with_reducible show wpAny _ _ (call (Value.ref 200) _ _) _ _ _); refine unhide ?_))
              | (with_reducible (k_here; (with_reducible show wpAny _ _ (call (Value.builtin "len") [Value.ref _]) _ _ _); k_dflt (refine' len_any ?k0 ?k1 ?k2 ?_; (case k0 => k_asm); (case k1 => (repeat (first | with_reducible assumption | with_reducible exact List.mem_cons_self .. | with_reducible refine List.mem_cons_of_mem _ ?_))); (case k2 => (simp only [List.size_toArray]; omega)); k_whole)))
              | ((with_reducible show wpAny _ _ (call (Value.builtin "list.append") _ _) _ _ _); with_reducible (k_here; refine unhide ?_))
              | ((with_reducible show wpAny _ _ (binaryOp Operator.Add (Value.ref _) (Value.ref _)) _ _ _); with_reducible (k_here; (with_reducible rename LoopTwo => lT'); refine unhide ?_))
              | ((with_reducible show wpAny _ _ (call (Value.builtin "isinstance") _ _) _ _ _); with_reducible (k_here; refine unhide ?_))
              | (with_reducible (k_here; (with_reducible show wpAny _ _ (call (Value.ref 193) _ _) _ _ _); refine unhide ?_))
              | (with_reducible (k_here; (with_reducible show wpAny _ _ (call (Value.ref 172) _ _) _ _ _); refine unhide ?_))
              | (with_reducible (k_here; (with_reducible show wpAny _ _ (call (Value.ref 165) _ _) _ _ _); refine unhide ?_))
              | (with_reducible (k_here; (with_reducible show wpAny _ _ (pyIter (Value.ref _)) _ _ _); refine unhide ?_))
              | ((with_reducible show wpAny _ _ (exec (Stmt.For (Expr.Tuple _ _ _) (Expr.Name _ _) (_ :: _) [] _) _) _ _ _); with_reducible (k_here; (rename Fr _ _ _ _ => lF'); (with_unfolding_all refine' For_turns lF' ?_; k_whole)))
              | ((with_reducible show wpAny _ _ (exec (Stmt.For (Expr.Name _ _) (Expr.Name _ _) (_ :: _) [] _) _) _ _ _); with_reducible (k_here; (rename Fr _ _ _ _ => lF'); (with_unfolding_all refine' For_turns lF' ?_; k_whole)))
              | ((with_reducible show wpAny _ _ (eval (Expr.ListComp _ _ _ _) _) _ _ _); with_reducible (k_here; k_dflt (refine LCg.ListComp_U (F₀ := by k_asm) (by rfl) (by decide) (by rfl) (by decide) (by rfl) (hide_src ?_))))
              | (with_reducible (k_here; (with_reducible show wpAny _ _ (call (Value.ref 186) _ _) _ _ _); refine unhide ?_))
              | ((with_reducible show wpAny _ _ (exec (Stmt.Assign [_] (Expr.ListComp _ _ _ _) _) _) _ _ _); with_reducible (k_here; k_dflt (refine LCg.Assign_ListComp_U (F₀ := by k_asm) (by rfl) (by with_unfolding_all rfl) (by rfl) (by decide) (by rfl) (by decide) (by rfl) (by rfl) (by rfl) (hide_src ?_))))
              | ((with_reducible show wpAny _ _ (leaving _ (Value.ref _)) _ _ _); with_reducible (k_here; k_dflt (first | (refine' leave_madeP ?k1 (Heap.MadeExc.of (by assumption)) ?k2 ?k3 ?_ ?k6 ?k5; (case k6 => exact rfl); (case k2 => assumption); (case k1 => assumption); (case k3 => k_asm); (case k5 => exact rfl); k_whole; intro h' t' R' U'; (try dsimp only at U' ⊢)) | (refine' leave_indexP ?k1 ?k0 ?k2 ?k3 ?_ ?k6 ?k5; (case k6 => exact rfl); (case k0 => assumption); (case k2 => assumption); (case k1 => assumption); (case k3 => k_asm); (case k5 => exact rfl); k_whole; intro h' R' U'; (try dsimp only at U' ⊢)) | (refine' leave_faultP ?k1 ?k0 ?k2 ?k3 ?_ ?k6 ?k5; (case k6 => exact rfl); (case k0 => assumption); (case k2 => assumption); (case k1 => assumption); (case k3 => k_asm); (case k5 => exact rfl); k_whole; intro h' t' dx' t1' t2' R' U'; (try dsimp only at U' ⊢)) | (refine' leaveOnP rfl ?k0 ?k1 ?k2 ?k3 ?k4 ?_; (case k3 => assumption); (case k0 => exact XIs.still (by assumption)); (case k1 => assumption); (case k2 => assumption); (case k4 => assumption); k_whole; intro h' R' U'; (try dsimp only at U' ⊢)))))
              | (with_reducible (k_here; (with_reducible show wpAny _ _ (call (Value.ref _) _ _) _ _ _); (with_reducible rename Does _ _ _ _ _ _ _ _ _ => hS); k_dflt (refine' hS _ _ _ _ _ _ _ _ _ _ _ _ _ _ _ _ _ _ _ _ _ _ _ _ _ _ ?B ?F ?X ?N ?T ?hk ?hd ?hu ?hn ?hI ?U ?_ ?_; (case B => k_asm); (case F => k_asm); (case X => k_asm); (case N => k_asm); (case T => k_asm); (case hk => exact rfl); (case hd => ((try dsimp only [ktrTop, Around.in1, Around.deeper]); omega)); (case hu => ((try dsimp only [ktrTop, Around.in1, Around.deeper]); omega)); (case hn => assumption); (case hI => assumption); (case U => assumption)); (try clear hS)))
              | walk1 | (dsimp only; walk1) | (leave1; (try dsimp only))))
            unfold Hide
            rename News _ _ _ nw6 => N6b
            refine isi_dl N6b ml6 ?_
            (repeat' (first
              | (k_unfold; (try dsimp only)) | (k_end; wrow_close)
              | ((with_reducible show wpAny _ _ (call (Value.type "enumerate") _ _) _ _ _); with_reducible (k_here; refine unhide ?_))
              | (with_reducible (k_here; (with_reducible show wpAny _ _ (getMethod (Value.ref _) (PySem.Str.ofString "append") _) _ _ _); k_dflt (refine' kl_method ?N ?m PySem.F.slot_list_append PySem.F.type_list_append ?_; (case N => k_asm); (case m => (repeat (first | with_reducible assumption | with_reducible exact List.mem_cons_self .. | with_reducible refine List.mem_cons_of_mem _ ?_))))))
              | ((with_reducible show wpAny _ _ (compareOp CmpOp.Eq (Value.ref _) (Value.ref _)) _ _ _); with_reducible (k_here; refine unhide ?_))
              | ((with_reducible show wpAny _ _ (compareOp CmpOp.NotEq (Value.ref _) (Value.ref _)) _ _ _); with_reducible (k_here; refine unhide ?_))
              | ((with_reducible show wpAny _ _ (subscriptTail (Expr.Name _ _) (Expr.Name _ _) (Value.ref _) (Value.int _ _)) _ _ _); with_reducible (k_here; refine unhide ?_))
              | ((with_reducible show wpAny _ _ (exec (Stmt.For (Expr.Name _ _) (Expr.List _ _) (_ :: _) [] _) _) _ _ _); with_reducible (k_here; (rename Fr _ _ _ _ => lF'); (with_unfolding_all refine' For_turns lF' ?_; k_whole)))
              | (with_reducible (k_here; (with_reducible show wpAny _ _ (call (Value.ref 200) _ _) _ _ _); refine unhide ?_))
              | (with_reducible (k_here; (with_reducible show wpAny _ _ (call (Value.builtin "len") [Value.ref _]) _ _ _); k_dflt (refine' len_any ?k0 ?k1 ?k2 ?_; (case k0 => k_asm); (case k1 => (repeat (first | with_reducible assumption | with_reducible exact List.mem_cons_self .. | with_reducible refine List.mem_cons_of_mem _ ?_))); (case k2 => (simp only [List.size_toArray]; omega)); k_whole)))
              | ((with_reducible show wpAny _ _ (call (Value.builtin "list.append") _ _) _ _ _); with_reducible (k_here; refine unhide ?_))
              | ((with_reducible show wpAny _ _ (binaryOp Operator.Add (Value.ref _) (Value.ref _)) _ _ _); with_reducible (k_here; (with_reducible rename LoopTwo => lT'); refine unhide ?_))
              | ((with_reducible show wpAny _ _ (call (Value.builtin "isinstance") _ _) _ _ _); with_reducible (k_here; refine unhide ?_))
              | (with_reducible (k_here; (with_reducible show wpAny _ _ (call (Value.ref 193) _ _) _ _ _); refine unhide ?_))
              | (with_reducible (k_here; (with_reducible show wpAny _ _ (call (Value.ref 172) _ _) _ _ _); refine unhide ?_))
              | (with_reducible (k_here; (with_reducible show wpAny _ _ (call (Value.ref 165) _ _) _ _ _); refine unhide ?_))
              | (with_reducible (k_here; (with_reducible show wpAny _ _ (pyIter (Value.ref _)) _ _ _); refine unhide ?_))
              | ((with_reducible show wpAny _ _ (exec (Stmt.For (Expr.Tuple _ _ _) (Expr.Name _ _) (_ :: _) [] _) _) _ _ _); with_reducible (k_here; (rename Fr _ _ _ _ => lF'); (with_unfolding_all refine' For_turns lF' ?_; k_whole)))
              | ((with_reducible show wpAny _ _ (exec (Stmt.For (Expr.Name _ _) (Expr.Name _ _) (_ :: _) [] _) _) _ _ _); with_reducible (k_here; (rename Fr _ _ _ _ => lF'); (with_unfolding_all refine' For_turns lF' ?_; k_whole)))
              | ((with_reducible show wpAny _ _ (eval (Expr.ListComp _ _ _ _) _) _ _ _); with_reducible (k_here; k_dflt (refine LCg.ListComp_U (F₀ := by k_asm) (by rfl) (by decide) (by rfl) (by decide) (by rfl) (hide_src ?_))))
              | (with_reducible (k_here; (with_reducible show wpAny _ _ (call (Value.ref 186) _ _) _ _ _); refine unhide ?_))
              | ((with_reducible show wpAny _ _ (exec (Stmt.Assign [_] (Expr.ListComp _ _ _ _) _) _) _ _ _); with_reducible (k_here; k_dflt (refine LCg.Assign_ListComp_U (F₀ := by k_asm) (by rfl) (by with_unfolding_all rfl) (by rfl) (by decide) (by rfl) (by decide) (by rfl) (by rfl) (by rfl) (hide_src ?_))))
              | ((with_reducible show wpAny _ _ (leaving _ (Value.ref _)) _ _ _); with_reducible (k_here; k_dflt (first | (refine' leave_madeP ?k1 (Heap.MadeExc.of (by assumption)) ?k2 ?k3 ?_ ?k6 ?k5; (case k6 => exact rfl); (case k2 => assumption); (case k1 => assumption); (case k3 => k_asm); (case k5 => exact rfl); k_whole; intro h' t' R' U'; (try dsimp only at U' ⊢)) | (refine' leave_indexP ?k1 ?k0 ?k2 ?k3 ?_ ?k6 ?k5; (case k6 => exact rfl); (case k0 => assumption); (case k2 => assumption); (case k1 => assumption); (case k3 => k_asm); (case k5 => exact rfl); k_whole; intro h' R' U'; (try dsimp only at U' ⊢)) | (refine' leave_faultP ?k1 ?k0 ?k2 ?k3 ?_ ?k6 ?k5; (case k6 => exact rfl); (case k0 => assumption); (case k2 => assumption); (case k1 => assumption); (case k3 => k_asm); (case k5 => exact rfl); k_whole; intro h' t' dx' t1' t2' R' U'; (try dsimp only at U' ⊢)) | (refine' leaveOnP rfl ?k0 ?k1 ?k2 ?k3 ?k4 ?_; (case k3 => assumption); (case k0 => exact XIs.still (by assumption)); (case k1 => assumption); (case k2 => assumption); (case k4 => assumption); k_whole; intro h' R' U'; (try dsimp only at U' ⊢)))))
              | (with_reducible (k_here; (with_reducible show wpAny _ _ (call (Value.ref _) _ _) _ _ _); (with_reducible rename Does _ _ _ _ _ _ _ _ _ => hS); k_dflt (refine' hS _ _ _ _ _ _ _ _ _ _ _ _ _ _ _ _ _ _ _ _ _ _ _ _ _ _ ?B ?F ?X ?N ?T ?hk ?hd ?hu ?hn ?hI ?U ?_ ?_; (case B => k_asm); (case F => k_asm); (case X => k_asm); (case N => k_asm); (case T => k_asm); (case hk => exact rfl); (case hd => ((try dsimp only [ktrTop, Around.in1, Around.deeper]); omega)); (case hu => ((try dsimp only [ktrTop, Around.in1, Around.deeper]); omega)); (case hn => assumption); (case hI => assumption); (case U => assumption)); (try clear hS)))
              | walk1 | (dsimp only; walk1) | (leave1; (try dsimp only))))
            unfold Hide
            refine app_U (by k_asm) N6b U6 (by omega) ?_
            intro h8 F8 N8 U8 m8
            rw [e6] at N8
            (try dsimp only)
            (repeat' (first
              | (k_unfold; (try dsimp only)) | (k_end; wrow_close)
              | ((with_reducible show wpAny _ _ (call (Value.type "enumerate") _ _) _ _ _); with_reducible (k_here; refine unhide ?_))
              | (with_reducible (k_here; (with_reducible show wpAny _ _ (getMethod (Value.ref _) (PySem.Str.ofString "append") _) _ _ _); k_dflt (refine' kl_method ?N ?m PySem.F.slot_list_append PySem.F.type_list_append ?_; (case N => k_asm); (case m => (repeat (first | with_reducible assumption | with_reducible exact List.mem_cons_self .. | with_reducible refine List.mem_cons_of_mem _ ?_))))))
              | ((with_reducible show wpAny _ _ (compareOp CmpOp.Eq (Value.ref _) (Value.ref _)) _ _ _); with_reducible (k_here; refine unhide ?_))
              | ((with_reducible show wpAny _ _ (compareOp CmpOp.NotEq (Value.ref _) (Value.ref _)) _ _ _); with_reducible (k_here; refine unhide ?_))
              | ((with_reducible show wpAny _ _ (subscriptTail (Expr.Name _ _) (Expr.Name _ _) (Value.ref _) (Value.int _ _)) _ _ _); with_reducible (k_here; refine unhide ?_))
              | ((with_reducible show wpAny _ _ (exec (Stmt.For (Expr.Name _ _) (Expr.List _ _) (_ :: _) [] _) _) _ _ _); with_reducible (k_here; (rename Fr _ _ _ _ => lF'); (with_unfolding_all refine' For_turns lF' ?_; k_whole)))
              | (with_reducible (k_here; (with_reducible show wpAny _ _ (call (Value.ref 200) _ _) _ _ _); refine unhide ?_))
              | (with_reducible (k_here; (with_reducible show wpAny _ _ (call (Value.builtin "len") [Value.ref _]) _ _ _); k_dflt (refine' len_any ?k0 ?k1 ?k2 ?_; (case k0 => k_asm); (case k1 => (repeat (first | with_reducible assumption | with_reducible exact List.mem_cons_self .. | with_reducible refine List.mem_cons_of_mem _ ?_))); (case k2 => (simp only [List.size_toArray]; omega)); k_whole)))
              | ((with_reducible show wpAny _ _ (call (Value.builtin "list.append") _ _) _ _ _); with_reducible (k_here; refine unhide ?_))
              | ((with_reducible show wpAny _ _ (binaryOp Operator.Add (Value.ref _) (Value.ref _)) _ _ _); with_reducible (k_here; (with_reducible rename LoopTwo => lT'); refine unhide ?_))
              | ((with_reducible show wpAny _ _ (call (Value.builtin "isinstance") _ _) _ _ _); with_reducible (k_here; refine unhide ?_))
              | (with_reducible (k_here; (with_reducible show wpAny _ _ (call (Value.ref 193) _ _) _ _ _); refine unhide ?_))
              | (with_reducible (k_here; (with_reducible show wpAny _ _ (call (Value.ref 172) _ _) _ _ _); refine unhide ?_))
              | (with_reducible (k_here; (with_reducible show wpAny _ _ (call (Value.ref 165) _ _) _ _ _); refine unhide ?_))
              | (with_reducible (k_here; (with_reducible show wpAny _ _ (pyIter (Value.ref _)) _ _ _); refine unhide ?_))
              | ((with_reducible show wpAny _ _ (exec (Stmt.For (Expr.Tuple _ _ _) (Expr.Name _ _) (_ :: _) [] _) _) _ _ _); with_reducible (k_here; (rename Fr _ _ _ _ => lF'); (with_unfolding_all refine' For_turns lF' ?_; k_whole)))
              | ((with_reducible show wpAny _ _ (exec (Stmt.For (Expr.Name _ _) (Expr.Name _ _) (_ :: _) [] _) _) _ _ _); with_reducible (k_here; (rename Fr _ _ _ _ => lF'); (with_unfolding_all refine' For_turns lF' ?_; k_whole)))
              | ((with_reducible show wpAny _ _ (eval (Expr.ListComp _ _ _ _) _) _ _ _); with_reducible (k_here; k_dflt (refine LCg.ListComp_U (F₀ := by k_asm) (by rfl) (by decide) (by rfl) (by decide) (by rfl) (hide_src ?_))))
              | (with_reducible (k_here; (with_reducible show wpAny _ _ (call (Value.ref 186) _ _) _ _ _); refine unhide ?_))
              | ((with_reducible show wpAny _ _ (exec (Stmt.Assign [_] (Expr.ListComp _ _ _ _) _) _) _ _ _); with_reducible (k_here; k_dflt (refine LCg.Assign_ListComp_U (F₀ := by k_asm) (by rfl) (by with_unfolding_all rfl) (by rfl) (by decide) (by rfl) (by decide) (by rfl) (by rfl) (by rfl) (hide_src ?_))))
              | ((with_reducible show wpAny _ _ (leaving _ (Value.ref _)) _ _ _); with_reducible (k_here; k_dflt (first | (refine' leave_madeP ?k1 (Heap.MadeExc.of (by assumption)) ?k2 ?k3 ?_ ?k6 ?k5; (case k6 => exact rfl); (case k2 => assumption); (case k1 => assumption); (case k3 => k_asm); (case k5 => exact rfl); k_whole; intro h' t' R' U'; (try dsimp only at U' ⊢)) | (refine' leave_indexP ?k1 ?k0 ?k2 ?k3 ?_ ?k6 ?k5; (case k6 => exact rfl); (case k0 => assumption); (case k2 => assumption); (case k1 => assumption); (case k3 => k_asm); (case k5 => exact rfl); k_whole; intro h' R' U'; (try dsimp only at U' ⊢)) | (refine' leave_faultP ?k1 ?k0 ?k2 ?k3 ?_ ?k6 ?k5; (case k6 => exact rfl); (case k0 => assumption); (case k2 => assumption); (case k1 => assumption); (case k3 => k_asm); (case k5 => exact rfl); k_whole; intro h' t' dx' t1' t2' R' U'; (try dsimp only at U' ⊢)) | (refine' leaveOnP rfl ?k0 ?k1 ?k2 ?k3 ?k4 ?_; (case k3 => assumption); (case k0 => exact XIs.still (by assumption)); (case k1 => assumption); (case k2 => assumption); (case k4 => assumption); k_whole; intro h' R' U'; (try dsimp only at U' ⊢)))))
              | (with_reducible (k_here; (with_reducible show wpAny _ _ (call (Value.ref _) _ _) _ _ _); (with_reducible rename Does _ _ _ _ _ _ _ _ _ => hS); k_dflt (refine' hS _ _ _ _ _ _ _ _ _ _ _ _ _ _ _ _ _ _ _ _ _ _ _ _ _ _ ?B ?F ?X ?N ?T ?hk ?hd ?hu ?hn ?hI ?U ?_ ?_; (case B => k_asm); (case F => k_asm); (case X => k_asm); (case N => k_asm); (case T => k_asm); (case hk => exact rfl); (case hd => ((try dsimp only [ktrTop, Around.in1, Around.deeper]); omega)); (case hu => ((try dsimp only [ktrTop, Around.in1, Around.deeper]); omega)); (case hn => assumption); (case hI => assumption); (case U => assumption)); (try clear hS)))
              | walk1 | (dsimp only; walk1) | (leave1; (try dsimp only))))
            exact endW F8 N8 (ainv_in (ex := []) xI5 (Ne.symm (off7 _ mA7))) (ainv_step (ex := []) frm3_next off7 neOA neO8 neA8 mO7 m87 mA7 hlA7 hold7 hk7 keepA_ne s8 o51 o52 o53 o54 o55 (fun _ h => nomatch h) (fun q hq => .inl ⟨R5s q hq, R5a q hq⟩) toA)
        case fin3 =>
          intro m news8 h8 tk8 hInv8 F8 N8
          obtain ⟨⟨u1, u2, u3, rfl⟩, ⟨vsO, nO, mO8, hiO8⟩, ⟨ps8, m88, _⟩, ⟨as8, nA8, mA8, hlA8, hold8⟩, hk8⟩ := hInv8
          have hiO9 : IntsKept vsO (heapAt xs9 ws9.length) := by rw [← hcs11]; exact hiO8
          clear hiO8
          have toK8 := fun q a b c d => hk8 _ (upK12 q (up12 q a b) c d)
          have mN8b := toK8 _ mN10 nNC nNO nN8
          have mS8 := toK8 _ pS (Nat.ne_of_lt l10.2.1) (Nat.ne_of_lt l10o.1) n18
          have m58 := toK8 _ m5a n5C n5O (by decide)
          dsimp only
          (repeat' (first
            | (k_unfold; (try dsimp only)) | (k_end; wrow_close)
            | ((with_reducible show wpAny _ _ (call (Value.type "enumerate") _ _) _ _ _); with_reducible (k_here; refine unhide ?_))
            | (with_reducible (k_here; (with_reducible show wpAny _ _ (getMethod (Value.ref _) (PySem.Str.ofString "append") _) _ _ _); k_dflt (refine' kl_method ?N ?m PySem.F.slot_list_append PySem.F.type_list_append ?_; (case N => k_asm); (case m => (repeat (first | with_reducible assumption | with_reducible exact List.mem_cons_self .. | with_reducible refine List.mem_cons_of_mem _ ?_))))))
            | ((with_reducible show wpAny _ _ (compareOp CmpOp.Eq (Value.ref _) (Value.ref _)) _ _ _); with_reducible (k_here; refine unhide ?_))
            | ((with_reducible show wpAny _ _ (compareOp CmpOp.NotEq (Value.ref _) (Value.ref _)) _ _ _); with_reducible (k_here; refine unhide ?_))
            | ((with_reducible show wpAny _ _ (subscriptTail (Expr.Name _ _) (Expr.Name _ _) (Value.ref _) (Value.int _ _)) _ _ _); with_reducible (k_here; refine unhide ?_))
            | ((with_reducible show wpAny _ _ (exec (Stmt.For (Expr.Name _ _) (Expr.List _ _) (_ :: _) [] _) _) _ _ _); with_reducible (k_here; (rename Fr _ _ _ _ => lF'); (with_unfolding_all refine' For_turns lF' ?_; k_whole)))
            | (with_reducible (k_here; (with_reducible show wpAny _ _ (call (Value.ref 200) _ _) _ _ _); refine unhide ?_))
            | (with_reducible (k_here; (with_reducible show wpAny _ _ (call (Value.builtin "len") [Value.ref _]) _ _ _); k_dflt (refine' len_any ?k0 ?k1 ?k2 ?_; (case k0 => k_asm); (case k1 => (repeat (first | with_reducible assumption | with_reducible exact List.mem_cons_self .. | with_reducible refine List.mem_cons_of_mem _ ?_))); (case k2 => (simp only [List.size_toArray]; omega)); k_whole)))
            | ((with_reducible show wpAny _ _ (call (Value.builtin "list.append") _ _) _ _ _); with_reducible (k_here; refine unhide ?_))
            | ((with_reducible show wpAny _ _ (binaryOp Operator.Add (Value.ref _) (Value.ref _)) _ _ _); with_reducible (k_here; (with_reducible rename LoopTwo => lT'); refine unhide ?_))
            | ((with_reducible show wpAny _ _ (call (Value.builtin "isinstance") _ _) _ _ _); with_reducible (k_here; refine unhide ?_))
            | (with_reducible (k_here; (with_reducible show wpAny _ _ (call (Value.ref 193) _ _) _ _ _); refine unhide ?_))
            | (with_reducible (k_here; (with_reducible show wpAny _ _ (call (Value.ref 172) _ _) _ _ _); refine unhide ?_))
            | (with_reducible (k_here; (with_reducible show wpAny _ _ (call (Value.ref 165) _ _) _ _ _); refine unhide ?_))
            | (with_reducible (k_here; (with_reducible show wpAny _ _ (pyIter (Value.ref _)) _ _ _); refine unhide ?_))
            | ((with_reducible show wpAny _ _ (exec (Stmt.For (Expr.Tuple _ _ _) (Expr.Name _ _) (_ :: _) [] _) _) _ _ _); with_reducible (k_here; (rename Fr _ _ _ _ => lF'); (with_unfolding_all refine' For_turns lF' ?_; k_whole)))
            | ((with_reducible show wpAny _ _ (exec (Stmt.For (Expr.Name _ _) (Expr.Name _ _) (_ :: _) [] _) _) _ _ _); with_reducible (k_here; (rename Fr _ _ _ _ => lF'); (with_unfolding_all refine' For_turns lF' ?_; k_whole)))
            | ((with_reducible show wpAny _ _ (eval (Expr.ListComp _ _ _ _) _) _ _ _); with_reducible (k_here; k_dflt (refine LCg.ListComp_U (F₀ := by k_asm) (by rfl) (by decide) (by rfl) (by decide) (by rfl) (hide_src ?_))))
            | (with_reducible (k_here; (with_reducible show wpAny _ _ (call (Value.ref 186) _ _) _ _ _); refine unhide ?_))
            | ((with_reducible show wpAny _ _ (exec (Stmt.Assign [_] (Expr.ListComp _ _ _ _) _) _) _ _ _); with_reducible (k_here; k_dflt (refine LCg.Assign_ListComp_U (F₀ := by k_asm) (by rfl) (by with_unfolding_all rfl) (by rfl) (by decide) (by rfl) (by decide) (by rfl) (by rfl) (by rfl) (hide_src ?_))))
            | ((with_reducible show wpAny _ _ (leaving _ (Value.ref _)) _ _ _); with_reducible (k_here; k_dflt (first | (refine' leave_madeP ?k1 (Heap.MadeExc.of (by assumption)) ?k2 ?k3 ?_ ?k6 ?k5; (case k6 => exact rfl); (case k2 => assumption); (case k1 => assumption); (case k3 => k_asm); (case k5 => exact rfl); k_whole; intro h' t' R' U'; (try dsimp only at U' ⊢)) | (refine' leave_indexP ?k1 ?k0 ?k2 ?k3 ?_ ?k6 ?k5; (case k6 => exact rfl); (case k0 => assumption); (case k2 => assumption); (case k1 => assumption); (case k3 => k_asm); (case k5 => exact rfl); k_whole; intro h' R' U'; (try dsimp only at U' ⊢)) | (refine' leave_faultP ?k1 ?k0 ?k2 ?k3 ?_ ?k6 ?k5; (case k6 => exact rfl); (case k0 => assumption); (case k2 => assumption); (case k1 => assumption); (case k3 => k_asm); (case k5 => exact rfl); k_whole; intro h' t' dx' t1' t2' R' U'; (try dsimp only at U' ⊢)) | (refine' leaveOnP rfl ?k0 ?k1 ?k2 ?k3 ?k4 ?_; (case k3 => assumption); (case k0 => exact XIs.still (by assumption)); (case k1 => assumption); (case k2 => assumption); (case k4 => assumption); k_whole; intro h' R' U'; (try dsimp only at U' ⊢)))))
            | (with_reducible (k_here; (with_reducible show wpAny _ _ (call (Value.ref _) _ _) _ _ _); (with_reducible rename Does _ _ _ _ _ _ _ _ _ => hS); k_dflt (refine' hS _ _ _ _ _ _ _ _ _ _ _ _ _ _ _ _ _ _ _ _ _ _ _ _ _ _ ?B ?F ?X ?N ?T ?hk ?hd ?hu ?hn ?hI ?U ?_ ?_; (case B => k_asm); (case F => k_asm); (case X => k_asm); (case N => k_asm); (case T => k_asm); (case hk => exact rfl); (case hd => ((try dsimp only [ktrTop, Around.in1, Around.deeper]); omega)); (case hu => ((try dsimp only [ktrTop, Around.in1, Around.deeper]); omega)); (case hn => assumption); (case hI => assumption); (case U => assumption)); (try clear hS)))
            | walk1 | (dsimp only; walk1) | (leave1; (try dsimp only))))
          unfold Hide
          rename IsRange _ _ _ _ _ _ _ _ => hR8
          rw [← hl9] at hR8
          rename News _ _ _ (_ :: _ :: news8) => N8b
          obtain ⟨nw13, K13, N13, R13, S13, up13⟩ := open_it N8b m58 mA8 hold8 sing toK8 mS8
          clear N8b
          rename Fr _ _ _ _ => F13
          refine (let m13 : Str → Option Value := _; have F13L : Fr _ _ _ m13 := F13; ?_)
          clear F13
          refine iter_rangeUnr (n := ws9.length) rfl hR8 (small_len (by omega)) (size_len _) F13L N13 (fun I lI => ?_)
          refine range_rest ws9.length (OuInv _ K13) ?fin4 ?turn4 ws9.length 0 _ _ (Nat.zero_add _) ⟨frm2_start, S13⟩ (fun p hp => Nat.ne_of_lt (lI p hp))
          case turn4 =>
            intro QR sR i m9 news9 t h9 tk9 hi9 hInv9 off9 F9 N9
            obtain ⟨⟨v91, v92, rfl⟩, S94⟩ := hInv9
            (repeat' (first
              | (k_unfold; (try dsimp only)) | (k_end; wrow_close)
              | ((with_reducible show wpAny _ _ (call (Value.type "enumerate") _ _) _ _ _); with_reducible (k_here; refine unhide ?_))
              | (with_reducible (k_here; (with_reducible show wpAny _ _ (getMethod (Value.ref _) (PySem.Str.ofString "append") _) _ _ _); k_dflt (refine' kl_method ?N ?m PySem.F.slot_list_append PySem.F.type_list_append ?_; (case N => k_asm); (case m => (repeat (first | with_reducible assumption | with_reducible exact List.mem_cons_self .. | with_reducible refine List.mem_cons_of_mem _ ?_))))))
              | ((with_reducible show wpAny _ _ (compareOp CmpOp.Eq (Value.ref _) (Value.ref _)) _ _ _); with_reducible (k_here; refine unhide ?_))
              | ((with_reducible show wpAny _ _ (compareOp CmpOp.NotEq (Value.ref _) (Value.ref _)) _ _ _); with_reducible (k_here; refine unhide ?_))
              | ((with_reducible show wpAny _ _ (subscriptTail (Expr.Name _ _) (Expr.Name _ _) (Value.ref _) (Value.int _ _)) _ _ _); with_reducible (k_here; refine unhide ?_))
              | ((with_reducible show wpAny _ _ (exec (Stmt.For (Expr.Name _ _) (Expr.List _ _) (_ :: _) [] _) _) _ _ _); with_reducible (k_here; (rename Fr _ _ _ _ => lF'); (with_unfolding_all refine' For_turns lF' ?_; k_whole)))
              | (with_reducible (k_here; (with_reducible show wpAny _ _ (call (Value.ref 200) _ _) _ _ _); refine unhide ?_))
              | (with_reducible (k_here; (with_reducible show wpAny _ _ (call (Value.builtin "len") [Value.ref _]) _ _ _); k_dflt (refine' len_any ?k0 ?k1 ?k2 ?_; (case k0 => k_asm); (case k1 => (repeat (first | with_reducible assumption | with_reducible exact List.mem_cons_self .. | with_reducible refine List.mem_cons_of_mem _ ?_))); (case k2 => (simp only [List.size_toArray]; omega)); k_whole)))
              | ((with_reducible show wpAny _ _ (call (Value.builtin "list.append") _ _) _ _ _); with_reducible (k_here; refine unhide ?_))
              | ((with_reducible show wpAny _ _ (binaryOp Operator.Add (Value.ref _) (Value.ref _)) _ _ _); with_reducible (k_here; (with_reducible rename LoopTwo => lT'); refine unhide ?_))
              | ((with_reducible show wpAny _ _ (call (Value.builtin "isinstance") _ _) _ _ _); with_reducible (k_here; refine unhide ?_))
              | (with_reducible (k_here; (with_reducible show wpAny _ _ (call (Value.ref 193) _ _) _ _ _); refine unhide ?_))
              | (with_reducible (k_here; (with_reducible show wpAny _ _ (call (Value.ref 172) _ _) _ _ _); refine unhide ?_))
              | (with_reducible (k_here; (with_reducible show wpAny _ _ (call (Value.ref 165) _ _) _ _ _); refine unhide ?_))
              | (with_reducible (k_here; (with_reducible show wpAny _ _ (pyIter (Value.ref _)) _ _ _); refine unhide ?_))
              | ((with_reducible show wpAny _ _ (exec (Stmt.For (Expr.Tuple _ _ _) (Expr.Name _ _) (_ :: _) [] _) _) _ _ _); with_reducible (k_here; (rename Fr _ _ _ _ => lF'); (with_unfolding_all refine' For_turns lF' ?_; k_whole)))
              | ((with_reducible show wpAny _ _ (exec (Stmt.For (Expr.Name _ _) (Expr.Name _ _) (_ :: _) [] _) _) _ _ _); with_reducible (k_here; (rename Fr _ _ _ _ => lF'); (with_unfolding_all refine' For_turns lF' ?_; k_whole)))
              | ((with_reducible show wpAny _ _ (eval (Expr.ListComp _ _ _ _) _) _ _ _); with_reducible (k_here; k_dflt (refine LCg.ListComp_U (F₀ := by k_asm) (by rfl) (by decide) (by rfl) (by decide) (by rfl) (hide_src ?_))))
              | (with_reducible (k_here; (with_reducible show wpAny _ _ (call (Value.ref 186) _ _) _ _ _); refine unhide ?_))
              | ((with_reducible show wpAny _ _ (exec (Stmt.Assign [_] (Expr.ListComp _ _ _ _) _) _) _ _ _); with_reducible (k_here; k_dflt (refine LCg.Assign_ListComp_U (F₀ := by k_asm) (by rfl) (by with_unfolding_all rfl) (by rfl) (by decide) (by rfl) (by decide) (by rfl) (by rfl) (by rfl) (hide_src ?_))))
              | ((with_reducible show wpAny _ _ (leaving _ (Value.ref _)) _ _ _); with_reducible (k_here; k_dflt (first | (refine' leave_madeP ?k1 (Heap.MadeExc.of (by assumption)) ?k2 ?k3 ?_ ?k6 ?k5; (case k6 => exact rfl); (case k2 => assumption); (case k1 => assumption); (case k3 => k_asm); (case k5 => exact rfl); k_whole; intro h' t' R' U'; (try dsimp only at U' ⊢)) | (refine' leave_indexP ?k1 ?k0 ?k2 ?k3 ?_ ?k6 ?k5; (case k6 => exact rfl); (case k0 => assumption); (case k2 => assumption); (case k1 => assumption); (case k3 => k_asm); (case k5 => exact rfl); k_whole; intro h' R' U'; (try dsimp only at U' ⊢)) | (refine' leave_faultP ?k1 ?k0 ?k2 ?k3 ?_ ?k6 ?k5; (case k6 => exact rfl); (case k0 => assumption); (case k2 => assumption); (case k1 => assumption); (case k3 => k_asm); (case k5 => exact rfl); k_whole; intro h' t' dx' t1' t2' R' U'; (try dsimp only at U' ⊢)) | (refine' leaveOnP rfl ?k0 ?k1 ?k2 ?k3 ?k4 ?_; (case k3 => assumption); (case k0 => exact XIs.still (by assumption)); (case k1 => assumption); (case k2 => assumption); (case k4 => assumption); k_whole; intro h' R' U'; (try dsimp only at U' ⊢)))))
              | (with_reducible (k_here; (with_reducible show wpAny _ _ (call (Value.ref _) _ _) _ _ _); (with_reducible rename Does _ _ _ _ _ _ _ _ _ => hS); k_dflt (refine' hS _ _ _ _ _ _ _ _ _ _ _ _ _ _ _ _ _ _ _ _ _ _ _ _ _ _ ?B ?F ?X ?N ?T ?hk ?hd ?hu ?hn ?hI ?U ?_ ?_; (case B => k_asm); (case F => k_asm); (case X => k_asm); (case N => k_asm); (case T => k_asm); (case hk => exact rfl); (case hd => ((try dsimp only [ktrTop, Around.in1, Around.deeper]); omega)); (case hu => ((try dsimp only [ktrTop, Around.in1, Around.deeper]); omega)); (case hn => assumption); (case hI => assumption); (case U => assumption)); (try clear hS)))
              | walk1 | (dsimp only; walk1) | (leave1; (try dsimp only))))
            unfold Hide
            rename News _ _ _ (_ :: _ :: news9) => N14b
            rename _ < _ ∧ AllLt _ news9 => l14
            obtain ⟨nw14, K14, N14, S14, mL14, mI14, up14, k514⟩ := open_in N14b S94 R13.k5 off9 l14
            clear N14b
            have R14 := R13.mono up14 k514
            rename Fr _ _ _ _ => F14
            refine (let m14 : Str → Option Value := _; have F14L : Fr _ _ _ m14 := F14; ?_)
            clear F14
            refine iter_listTurns rfl F14L N14 (rs_keep S14 mL14) rfl rfl (fun I2 lI2 => ?_)
            refine items_rest [_, _, _] (InInv _ K14 [I]) (fun i m n h => rs_keep h.2 mL14) ?fin5 ?turn5 3 0 _ _ rfl ⟨frm1, S14⟩ (fun p hp => Nat.ne_of_lt (lI2 p hp))
            case turn5 =>
              intro QR5 sR5 i5 m5v news5 v h5 tk5 o5 hv5 hInv5 off5 ho5 F5 N5
              obtain ⟨⟨vp5, rfl⟩, S5⟩ := hInv5
              obtain ⟨z5, tz5, p5, rfl, hp5, hat5⟩ := at_three (n := ws9.length) hi9 (by omega) (by first | omega | (simp; done) | (simp; omega)) (by first | omega | (simp; done) | (simp; omega)) (by first | omega | (simp; done) | (simp; omega)) hv5
              obtain ⟨a5, ha5⟩ := some_at (ys := as8) hp5 (by omega)
              obtain ⟨y5, hy5⟩ := some_at (ys := ys1) hp5 hInv1.2.2.2.1
              obtain ⟨V5, Y5, hR5, hYh5, cmp5⟩ := read_ans R14.it R14.di R14.la (hat5 _ _ (by omega) ha5) (R14.an _ _ ha5)
              (repeat' (first
                | (k_unfold; (try dsimp only)) | (k_end; wrow_close)
                | ((with_reducible show wpAny _ _ (call (Value.type "enumerate") _ _) _ _ _); with_reducible (k_here; refine unhide ?_))
                | (with_reducible (k_here; (with_reducible show wpAny _ _ (getMethod (Value.ref _) (PySem.Str.ofString "append") _) _ _ _); k_dflt (refine' kl_method ?N ?m PySem.F.slot_list_append PySem.F.type_list_append ?_; (case N => k_asm); (case m => (repeat (first | with_reducible assumption | with_reducible exact List.mem_cons_self .. | with_reducible refine List.mem_cons_of_mem _ ?_))))))
                | ((with_reducible show wpAny _ _ (compareOp CmpOp.Eq (Value.ref _) (Value.ref _)) _ _ _); with_reducible (k_here; refine unhide ?_))
                | ((with_reducible show wpAny _ _ (compareOp CmpOp.NotEq (Value.ref _) (Value.ref _)) _ _ _); with_reducible (k_here; refine unhide ?_))
                | ((with_reducible show wpAny _ _ (subscriptTail (Expr.Name _ _) (Expr.Name _ _) (Value.ref _) (Value.int _ _)) _ _ _); with_reducible (k_here; refine unhide ?_))
                | ((with_reducible show wpAny _ _ (exec (Stmt.For (Expr.Name _ _) (Expr.List _ _) (_ :: _) [] _) _) _ _ _); with_reducible (k_here; (rename Fr _ _ _ _ => lF'); (with_unfolding_all refine' For_turns lF' ?_; k_whole)))
                | (with_reducible (k_here; (with_reducible show wpAny _ _ (call (Value.ref 200) _ _) _ _ _); refine unhide ?_))
                | (with_reducible (k_here; (with_reducible show wpAny _ _ (call (Value.builtin "len") [Value.ref _]) _ _ _); k_dflt (refine' len_any ?k0 ?k1 ?k2 ?_; (case k0 => k_asm); (case k1 => (repeat (first | with_reducible assumption | with_reducible exact List.mem_cons_self .. | with_reducible refine List.mem_cons_of_mem _ ?_))); (case k2 => (simp only [List.size_toArray]; omega)); k_whole)))
                | ((with_reducible show wpAny _ _ (call (Value.builtin "list.append") _ _) _ _ _); with_reducible (k_here; refine unhide ?_))
                | ((with_reducible show wpAny _ _ (binaryOp Operator.Add (Value.ref _) (Value.ref _)) _ _ _); with_reducible (k_here; (with_reducible rename LoopTwo => lT'); refine unhide ?_))
                | ((with_reducible show wpAny _ _ (call (Value.builtin "isinstance") _ _) _ _ _); with_reducible (k_here; refine unhide ?_))
                | (with_reducible (k_here; (with_reducible show wpAny _ _ (call (Value.ref 193) _ _) _ _ _); refine unhide ?_))
                | (with_reducible (k_here; (with_reducible show wpAny _ _ (call (Value.ref 172) _ _) _ _ _); refine unhide ?_))
                | (with_reducible (k_here; (with_reducible show wpAny _ _ (call (Value.ref 165) _ _) _ _ _); refine unhide ?_))
                | (with_reducible (k_here; (with_reducible show wpAny _ _ (pyIter (Value.ref _)) _ _ _); refine unhide ?_))
                | ((with_reducible show wpAny _ _ (exec (Stmt.For (Expr.Tuple _ _ _) (Expr.Name _ _) (_ :: _) [] _) _) _ _ _); with_reducible (k_here; (rename Fr _ _ _ _ => lF'); (with_unfolding_all refine' For_turns lF' ?_; k_whole)))
                | ((with_reducible show wpAny _ _ (exec (Stmt.For (Expr.Name _ _) (Expr.Name _ _) (_ :: _) [] _) _) _ _ _); with_reducible (k_here; (rename Fr _ _ _ _ => lF'); (with_unfolding_all refine' For_turns lF' ?_; k_whole)))
                | ((with_reducible show wpAny _ _ (eval (Expr.ListComp _ _ _ _) _) _ _ _); with_reducible (k_here; k_dflt (refine LCg.ListComp_U (F₀ := by k_asm) (by rfl) (by decide) (by rfl) (by decide) (by rfl) (hide_src ?_))))
                | (with_reducible (k_here; (with_reducible show wpAny _ _ (call (Value.ref 186) _ _) _ _ _); refine unhide ?_))
                | ((with_reducible show wpAny _ _ (exec (Stmt.Assign [_] (Expr.ListComp _ _ _ _) _) _) _ _ _); with_reducible (k_here; k_dflt (refine LCg.Assign_ListComp_U (F₀ := by k_asm) (by rfl) (by with_unfolding_all rfl) (by rfl) (by decide) (by rfl) (by decide) (by rfl) (by rfl) (by rfl) (hide_src ?_))))
                | ((with_reducible show wpAny _ _ (leaving _ (Value.ref _)) _ _ _); with_reducible (k_here; k_dflt (first | (refine' leave_madeP ?k1 (Heap.MadeExc.of (by assumption)) ?k2 ?k3 ?_ ?k6 ?k5; (case k6 => exact rfl); (case k2 => assumption); (case k1 => assumption); (case k3 => k_asm); (case k5 => exact rfl); k_whole; intro h' t' R' U'; (try dsimp only at U' ⊢)) | (refine' leave_indexP ?k1 ?k0 ?k2 ?k3 ?_ ?k6 ?k5; (case k6 => exact rfl); (case k0 => assumption); (case k2 => assumption); (case k1 => assumption); (case k3 => k_asm); (case k5 => exact rfl); k_whole; intro h' R' U'; (try dsimp only at U' ⊢)) | (refine' leave_faultP ?k1 ?k0 ?k2 ?k3 ?_ ?k6 ?k5; (case k6 => exact rfl); (case k0 => assumption); (case k2 => assumption); (case k1 => assumption); (case k3 => k_asm); (case k5 => exact rfl); k_whole; intro h' t' dx' t1' t2' R' U'; (try dsimp only at U' ⊢)) | (refine' leaveOnP rfl ?k0 ?k1 ?k2 ?k3 ?k4 ?_; (case k3 => assumption); (case k0 => exact XIs.still (by assumption)); (case k1 => assumption); (case k2 => assumption); (case k4 => assumption); k_whole; intro h' R' U'; (try dsimp only at U' ⊢)))))
                | (with_reducible (k_here; (with_reducible show wpAny _ _ (call (Value.ref _) _ _) _ _ _); (with_reducible rename Does _ _ _ _ _ _ _ _ _ => hS); k_dflt (refine' hS _ _ _ _ _ _ _ _ _ _ _ _ _ _ _ _ _ _ _ _ _ _ _ _ _ _ ?B ?F ?X ?N ?T ?hk ?hd ?hu ?hn ?hI ?U ?_ ?_; (case B => k_asm); (case F => k_asm); (case X => k_asm); (case N => k_asm); (case T => k_asm); (case hk => exact rfl); (case hd => ((try dsimp only [ktrTop, Around.in1, Around.deeper]); omega)); (case hu => ((try dsimp only [ktrTop, Around.in1, Around.deeper]); omega)); (case hn => assumption); (case hI => assumption); (case U => assumption)); (try clear hS)))
                | walk1 | (dsimp only; walk1) | (leave1; (try dsimp only))))
              unfold Hide
              rename News _ _ _ ((I2, o5) :: news5) => N5b
              obtain ⟨T6, nw6, N6, P6, up6, out6⟩ := rs_pre N5b k514 (rs_in S5 off5) (has_two (rs_keep S5 mI14))
              refine' read (by decide) hR5 hYh5 _ _ _ _ _ _ _ _ _ _ _ _ _ _ _ _ _ _ _ _ _ _ _ ?B ?F ?X N6 ?T ?XB ?TB ?D rfl ?hd ?hu P6 ?_
              (case B => k_asm)
              (case F => k_asm)
              (case X => k_asm)
              (case T => k_asm)
              (case XB => k_asm)
              (case TB => k_asm)
              (case D => exact ktsDicts_nil)
              (case hd => exact Nat.le_of_ble_eq_true rfl)
              (case hu => exact Nat.le_of_ble_eq_true rfl)
              intro h₁ h7 tk7 v7 nx7 R7 T7 B7 F7 X7 N7 P7 D7
              replace F7 := turn_fr T7 F7
              replace N7 := turn_news T7 N7
              clear B7 X7 P7 D7 T7
              obtain ⟨S7, k7, r7⟩ := out6 R7
              (try dsimp only)
              (repeat' (first
                | (k_unfold; (try dsimp only)) | (k_end; wrow_close)
                | ((with_reducible show wpAny _ _ (call (Value.type "enumerate") _ _) _ _ _); with_reducible (k_here; refine unhide ?_))
                | (with_reducible (k_here; (with_reducible show wpAny _ _ (getMethod (Value.ref _) (PySem.Str.ofString "append") _) _ _ _); k_dflt (refine' kl_method ?N ?m PySem.F.slot_list_append PySem.F.type_list_append ?_; (case N => k_asm); (case m => (repeat (first | with_reducible assumption | with_reducible exact List.mem_cons_self .. | with_reducible refine List.mem_cons_of_mem _ ?_))))))
                | ((with_reducible show wpAny _ _ (compareOp CmpOp.Eq (Value.ref _) (Value.ref _)) _ _ _); with_reducible (k_here; refine unhide ?_))
                | ((with_reducible show wpAny _ _ (compareOp CmpOp.NotEq (Value.ref _) (Value.ref _)) _ _ _); with_reducible (k_here; refine unhide ?_))
                | ((with_reducible show wpAny _ _ (subscriptTail (Expr.Name _ _) (Expr.Name _ _) (Value.ref _) (Value.int _ _)) _ _ _); with_reducible (k_here; refine unhide ?_))
                | ((with_reducible show wpAny _ _ (exec (Stmt.For (Expr.Name _ _) (Expr.List _ _) (_ :: _) [] _) _) _ _ _); with_reducible (k_here; (rename Fr _ _ _ _ => lF'); (with_unfolding_all refine' For_turns lF' ?_; k_whole)))
                | (with_reducible (k_here; (with_reducible show wpAny _ _ (call (Value.ref 200) _ _) _ _ _); refine unhide ?_))
                | (with_reducible (k_here; (with_reducible show wpAny _ _ (call (Value.builtin "len") [Value.ref _]) _ _ _); k_dflt (refine' len_any ?k0 ?k1 ?k2 ?_; (case k0 => k_asm); (case k1 => (repeat (first | with_reducible assumption | with_reducible exact List.mem_cons_self .. | with_reducible refine List.mem_cons_of_mem _ ?_))); (case k2 => (simp only [List.size_toArray]; omega)); k_whole)))
                | ((with_reducible show wpAny _ _ (call (Value.builtin "list.append") _ _) _ _ _); with_reducible (k_here; refine unhide ?_))
                | ((with_reducible show wpAny _ _ (binaryOp Operator.Add (Value.ref _) (Value.ref _)) _ _ _); with_reducible (k_here; (with_reducible rename LoopTwo => lT'); refine unhide ?_))
                | ((with_reducible show wpAny _ _ (call (Value.builtin "isinstance") _ _) _ _ _); with_reducible (k_here; refine unhide ?_))
                | (with_reducible (k_here; (with_reducible show wpAny _ _ (call (Value.ref 193) _ _) _ _ _); refine unhide ?_))
                | (with_reducible (k_here; (with_reducible show wpAny _ _ (call (Value.ref 172) _ _) _ _ _); refine unhide ?_))
                | (with_reducible (k_here; (with_reducible show wpAny _ _ (call (Value.ref 165) _ _) _ _ _); refine unhide ?_))
                | (with_reducible (k_here; (with_reducible show wpAny _ _ (pyIter (Value.ref _)) _ _ _); refine unhide ?_))
                | ((with_reducible show wpAny _ _ (exec (Stmt.For (Expr.Tuple _ _ _) (Expr.Name _ _) (_ :: _) [] _) _) _ _ _); with_reducible (k_here; (rename Fr _ _ _ _ => lF'); (with_unfolding_all refine' For_turns lF' ?_; k_whole)))
                | ((with_reducible show wpAny _ _ (exec (Stmt.For (Expr.Name _ _) (Expr.Name _ _) (_ :: _) [] _) _) _ _ _); with_reducible (k_here; (rename Fr _ _ _ _ => lF'); (with_unfolding_all refine' For_turns lF' ?_; k_whole)))
                | ((with_reducible show wpAny _ _ (eval (Expr.ListComp _ _ _ _) _) _ _ _); with_reducible (k_here; k_dflt (refine LCg.ListComp_U (F₀ := by k_asm) (by rfl) (by decide) (by rfl) (by decide) (by rfl) (hide_src ?_))))
                | (with_reducible (k_here; (with_reducible show wpAny _ _ (call (Value.ref 186) _ _) _ _ _); refine unhide ?_))
                | ((with_reducible show wpAny _ _ (exec (Stmt.Assign [_] (Expr.ListComp _ _ _ _) _) _) _ _ _); with_reducible (k_here; k_dflt (refine LCg.Assign_ListComp_U (F₀ := by k_asm) (by rfl) (by with_unfolding_all rfl) (by rfl) (by decide) (by rfl) (by decide) (by rfl) (by rfl) (by rfl) (hide_src ?_))))
                | ((with_reducible show wpAny _ _ (leaving _ (Value.ref _)) _ _ _); with_reducible (k_here; k_dflt (first | (refine' leave_madeP ?k1 (Heap.MadeExc.of (by assumption)) ?k2 ?k3 ?_ ?k6 ?k5; (case k6 => exact rfl); (case k2 => assumption); (case k1 => assumption); (case k3 => k_asm); (case k5 => exact rfl); k_whole; intro h' t' R' U'; (try dsimp only at U' ⊢)) | (refine' leave_indexP ?k1 ?k0 ?k2 ?k3 ?_ ?k6 ?k5; (case k6 => exact rfl); (case k0 => assumption); (case k2 => assumption); (case k1 => assumption); (case k3 => k_asm); (case k5 => exact rfl); k_whole; intro h' R' U'; (try dsimp only at U' ⊢)) | (refine' leave_faultP ?k1 ?k0 ?k2 ?k3 ?_ ?k6 ?k5; (case k6 => exact rfl); (case k0 => assumption); (case k2 => assumption); (case k1 => assumption); (case k3 => k_asm); (case k5 => exact rfl); k_whole; intro h' t' dx' t1' t2' R' U'; (try dsimp only at U' ⊢)) | (refine' leaveOnP rfl ?k0 ?k1 ?k2 ?k3 ?k4 ?_; (case k3 => assumption); (case k0 => exact XIs.still (by assumption)); (case k1 => assumption); (case k2 => assumption); (case k4 => assumption); k_whole; intro h' R' U'; (try dsimp only at U' ⊢)))))
                | (with_reducible (k_here; (with_reducible show wpAny _ _ (call (Value.ref _) _ _) _ _ _); (with_reducible rename Does _ _ _ _ _ _ _ _ _ => hS); k_dflt (refine' hS _ _ _ _ _ _ _ _ _ _ _ _ _ _ _ _ _ _ _ _ _ _ _ _ _ _ ?B ?F ?X ?N ?T ?hk ?hd ?hu ?hn ?hI ?U ?_ ?_; (case B => k_asm); (case F => k_asm); (case X => k_asm); (case N => k_asm); (case T => k_asm); (case hk => exact rfl); (case hd => ((try dsimp only [ktrTop, Around.in1, Around.deeper]); omega)); (case hu => ((try dsimp only [ktrTop, Around.in1, Around.deeper]); omega)); (case hn => assumption); (case hI => assumption); (case U => assumption)); (try clear hS)))
                | walk1 | (dsimp only; walk1) | (leave1; (try dsimp only))))
              unfold Hide
              refine item_at (lst_of N7 (rs_keep S7 R14.si)) (hat5 _ _ hInv1.2.2.2.1 hy5) ?_
              (try dsimp only)
              refine cmp5 N7 (fun q hq => rs_keep S7 hq) r7 ((R14.sn _ _ hy5).mono fun q hq => rs_keep S7 hq) ?hu _ _ ?_
              case hu => first | k_units | exact Nat.lt_of_lt_of_le (Nat.lt_of_ble_eq_true rfl) (Nat.le_refl _)
              (repeat' (first
                | (k_unfold; (try dsimp only)) | (k_end; wrow_close)
                | ((with_reducible show wpAny _ _ (call (Value.type "enumerate") _ _) _ _ _); with_reducible (k_here; refine unhide ?_))
                | (with_reducible (k_here; (with_reducible show wpAny _ _ (getMethod (Value.ref _) (PySem.Str.ofString "append") _) _ _ _); k_dflt (refine' kl_method ?N ?m PySem.F.slot_list_append PySem.F.type_list_append ?_; (case N => k_asm); (case m => (repeat (first | with_reducible assumption | with_reducible exact List.mem_cons_self .. | with_reducible refine List.mem_cons_of_mem _ ?_))))))
                | ((with_reducible show wpAny _ _ (compareOp CmpOp.Eq (Value.ref _) (Value.ref _)) _ _ _); with_reducible (k_here; refine unhide ?_))
                | ((with_reducible show wpAny _ _ (compareOp CmpOp.NotEq (Value.ref _) (Value.ref _)) _ _ _); with_reducible (k_here; refine unhide ?_))
                | ((with_reducible show wpAny _ _ (subscriptTail (Expr.Name _ _) (Expr.Name _ _) (Value.ref _) (Value.int _ _)) _ _ _); with_reducible (k_here; refine unhide ?_))
                | ((with_reducible show wpAny _ _ (exec (Stmt.For (Expr.Name _ _) (Expr.List _ _) (_ :: _) [] _) _) _ _ _); with_reducible (k_here; (rename Fr _ _ _ _ => lF'); (with_unfolding_all refine' For_turns lF' ?_; k_whole)))
                | (with_reducible (k_here; (with_reducible show wpAny _ _ (call (Value.ref 200) _ _) _ _ _); refine unhide ?_))
                | (with_reducible (k_here; (with_reducible show wpAny _ _ (call (Value.builtin "len") [Value.ref _]) _ _ _); k_dflt (refine' len_any ?k0 ?k1 ?k2 ?_; (case k0 => k_asm); (case k1 => (repeat (first | with_reducible assumption | with_reducible exact List.mem_cons_self .. | with_reducible refine List.mem_cons_of_mem _ ?_))); (case k2 => (simp only [List.size_toArray]; omega)); k_whole)))
                | ((with_reducible show wpAny _ _ (call (Value.builtin "list.append") _ _) _ _ _); with_reducible (k_here; refine unhide ?_))
                | ((with_reducible show wpAny _ _ (binaryOp Operator.Add (Value.ref _) (Value.ref _)) _ _ _); with_reducible (k_here; (with_reducible rename LoopTwo => lT'); refine unhide ?_))
                | ((with_reducible show wpAny _ _ (call (Value.builtin "isinstance") _ _) _ _ _); with_reducible (k_here; refine unhide ?_))
                | (with_reducible (k_here; (with_reducible show wpAny _ _ (call (Value.ref 193) _ _) _ _ _); refine unhide ?_))
                | (with_reducible (k_here; (with_reducible show wpAny _ _ (call (Value.ref 172) _ _) _ _ _); refine unhide ?_))
                | (with_reducible (k_here; (with_reducible show wpAny _ _ (call (Value.ref 165) _ _) _ _ _); refine unhide ?_))
                | (with_reducible (k_here; (with_reducible show wpAny _ _ (pyIter (Value.ref _)) _ _ _); refine unhide ?_))
                | ((with_reducible show wpAny _ _ (exec (Stmt.For (Expr.Tuple _ _ _) (Expr.Name _ _) (_ :: _) [] _) _) _ _ _); with_reducible (k_here; (rename Fr _ _ _ _ => lF'); (with_unfolding_all refine' For_turns lF' ?_; k_whole)))
                | ((with_reducible show wpAny _ _ (exec (Stmt.For (Expr.Name _ _) (Expr.Name _ _) (_ :: _) [] _) _) _ _ _); with_reducible (k_here; (rename Fr _ _ _ _ => lF'); (with_unfolding_all refine' For_turns lF' ?_; k_whole)))
                | ((with_reducible show wpAny _ _ (eval (Expr.ListComp _ _ _ _) _) _ _ _); with_reducible (k_here; k_dflt (refine LCg.ListComp_U (F₀ := by k_asm) (by rfl) (by decide) (by rfl) (by decide) (by rfl) (hide_src ?_))))
                | (with_reducible (k_here; (with_reducible show wpAny _ _ (call (Value.ref 186) _ _) _ _ _); refine unhide ?_))
                | ((with_reducible show wpAny _ _ (exec (Stmt.Assign [_] (Expr.ListComp _ _ _ _) _) _) _ _ _); with_reducible (k_here; k_dflt (refine LCg.Assign_ListComp_U (F₀ := by k_asm) (by rfl) (by with_unfolding_all rfl) (by rfl) (by decide) (by rfl) (by decide) (by rfl) (by rfl) (by rfl) (hide_src ?_))))
                | ((with_reducible show wpAny _ _ (leaving _ (Value.ref _)) _ _ _); with_reducible (k_here; k_dflt (first | (refine' leave_madeP ?k1 (Heap.MadeExc.of (by assumption)) ?k2 ?k3 ?_ ?k6 ?k5; (case k6 => exact rfl); (case k2 => assumption); (case k1 => assumption); (case k3 => k_asm); (case k5 => exact rfl); k_whole; intro h' t' R' U'; (try dsimp only at U' ⊢)) | (refine' leave_indexP ?k1 ?k0 ?k2 ?k3 ?_ ?k6 ?k5; (case k6 => exact rfl); (case k0 => assumption); (case k2 => assumption); (case k1 => assumption); (case k3 => k_asm); (case k5 => exact rfl); k_whole; intro h' R' U'; (try dsimp only at U' ⊢)) | (refine' leave_faultP ?k1 ?k0 ?k2 ?k3 ?_ ?k6 ?k5; (case k6 => exact rfl); (case k0 => assumption); (case k2 => assumption); (case k1 => assumption); (case k3 => k_asm); (case k5 => exact rfl); k_whole; intro h' t' dx' t1' t2' R' U'; (try dsimp only at U' ⊢)) | (refine' leaveOnP rfl ?k0 ?k1 ?k2 ?k3 ?k4 ?_; (case k3 => assumption); (case k0 => exact XIs.still (by assumption)); (case k1 => assumption); (case k2 => assumption); (case k4 => assumption); k_whole; intro h' R' U'; (try dsimp only at U' ⊢)))))
                | (with_reducible (k_here; (with_reducible show wpAny _ _ (call (Value.ref _) _ _) _ _ _); (with_reducible rename Does _ _ _ _ _ _ _ _ _ => hS); k_dflt (refine' hS _ _ _ _ _ _ _ _ _ _ _ _ _ _ _ _ _ _ _ _ _ _ _ _ _ _ ?B ?F ?X ?N ?T ?hk ?hd ?hu ?hn ?hI ?U ?_ ?_; (case B => k_asm); (case F => k_asm); (case X => k_asm); (case N => k_asm); (case T => k_asm); (case hk => exact rfl); (case hd => ((try dsimp only [ktrTop, Around.in1, Around.deeper]); omega)); (case hu => ((try dsimp only [ktrTop, Around.in1, Around.deeper]); omega)); (case hn => assumption); (case hI => assumption); (case U => assumption)); (try clear hS)))
                | walk1 | (dsimp only; walk1) | (leave1; (try dsimp only))))
              exact endW F7 N7 (k7 _ (.head _) (rs_ne S5 off5)) ⟨⟨_, frm_next⟩, rs_off S7 (rs_ne S5 off5) (fun q hq => off5 q (rs_keep S5 hq))⟩
            case fin5 =>
              intro m6 news6 h6 tk6 hInv6 F6 N6
              obtain ⟨⟨vp6, rfl⟩, S6⟩ := hInv6
              (try dsimp only)
              (repeat' (first
                | (k_unfold; (try dsimp only)) | (k_end; wrow_close)
                | ((with_reducible show wpAny _ _ (call (Value.type "enumerate") _ _) _ _ _); with_reducible (k_here; refine unhide ?_))
                | (with_reducible (k_here; (with_reducible show wpAny _ _ (getMethod (Value.ref _) (PySem.Str.ofString "append") _) _ _ _); k_dflt (refine' kl_method ?N ?m PySem.F.slot_list_append PySem.F.type_list_append ?_; (case N => k_asm); (case m => (repeat (first | with_reducible assumption | with_reducible exact List.mem_cons_self .. | with_reducible refine List.mem_cons_of_mem _ ?_))))))
                | ((with_reducible show wpAny _ _ (compareOp CmpOp.Eq (Value.ref _) (Value.ref _)) _ _ _); with_reducible (k_here; refine unhide ?_))
                | ((with_reducible show wpAny _ _ (compareOp CmpOp.NotEq (Value.ref _) (Value.ref _)) _ _ _); with_reducible (k_here; refine unhide ?_))
                | ((with_reducible show wpAny _ _ (subscriptTail (Expr.Name _ _) (Expr.Name _ _) (Value.ref _) (Value.int _ _)) _ _ _); with_reducible (k_here; refine unhide ?_))
                | ((with_reducible show wpAny _ _ (exec (Stmt.For (Expr.Name _ _) (Expr.List _ _) (_ :: _) [] _) _) _ _ _); with_reducible (k_here; (rename Fr _ _ _ _ => lF'); (with_unfolding_all refine' For_turns lF' ?_; k_whole)))
                | (with_reducible (k_here; (with_reducible show wpAny _ _ (call (Value.ref 200) _ _) _ _ _); refine unhide ?_))
                | (with_reducible (k_here; (with_reducible show wpAny _ _ (call (Value.builtin "len") [Value.ref _]) _ _ _); k_dflt (refine' len_any ?k0 ?k1 ?k2 ?_; (case k0 => k_asm); (case k1 => (repeat (first | with_reducible assumption | with_reducible exact List.mem_cons_self .. | with_reducible refine List.mem_cons_of_mem _ ?_))); (case k2 => (simp only [List.size_toArray]; omega)); k_whole)))
                | ((with_reducible show wpAny _ _ (call (Value.builtin "list.append") _ _) _ _ _); with_reducible (k_here; refine unhide ?_))
                | ((with_reducible show wpAny _ _ (binaryOp Operator.Add (Value.ref _) (Value.ref _)) _ _ _); with_reducible (k_here; (with_reducible rename LoopTwo => lT'); refine unhide ?_))
                | ((with_reducible show wpAny _ _ (call (Value.builtin "isinstance") _ _) _ _ _); with_reducible (k_here; refine unhide ?_))
                | (with_reducible (k_here; (with_reducible show wpAny _ _ (call (Value.ref 193) _ _) _ _ _); refine unhide ?_))
                | (with_reducible (k_here; (with_reducible show wpAny _ _ (call (Value.ref 172) _ _) _ _ _); refine unhide ?_))
                | (with_reducible (k_here; (with_reducible show wpAny _ _ (call (Value.ref 165) _ _) _ _ _); refine unhide ?_))
                | (with_reducible (k_here; (with_reducible show wpAny _ _ (pyIter (Value.ref _)) _ _ _); refine unhide ?_))
                | ((with_reducible show wpAny _ _ (exec (Stmt.For (Expr.Tuple _ _ _) (Expr.Name _ _) (_ :: _) [] _) _) _ _ _); with_reducible (k_here; (rename Fr _ _ _ _ => lF'); (with_unfolding_all refine' For_turns lF' ?_; k_whole)))
                | ((with_reducible show wpAny _ _ (exec (Stmt.For (Expr.Name _ _) (Expr.Name _ _) (_ :: _) [] _) _) _ _ _); with_reducible (k_here; (rename Fr _ _ _ _ => lF'); (with_unfolding_all refine' For_turns lF' ?_; k_whole)))
                | ((with_reducible show wpAny _ _ (eval (Expr.ListComp _ _ _ _) _) _ _ _); with_reducible (k_here; k_dflt (refine LCg.ListComp_U (F₀ := by k_asm) (by rfl) (by decide) (by rfl) (by decide) (by rfl) (hide_src ?_))))
                | (with_reducible (k_here; (with_reducible show wpAny _ _ (call (Value.ref 186) _ _) _ _ _); refine unhide ?_))
                | ((with_reducible show wpAny _ _ (exec (Stmt.Assign [_] (Expr.ListComp _ _ _ _) _) _) _ _ _); with_reducible (k_here; k_dflt (refine LCg.Assign_ListComp_U (F₀ := by k_asm) (by rfl) (by with_unfolding_all rfl) (by rfl) (by decide) (by rfl) (by decide) (by rfl) (by rfl) (by rfl) (hide_src ?_))))
                | ((with_reducible show wpAny _ _ (leaving _ (Value.ref _)) _ _ _); with_reducible (k_here; k_dflt (first | (refine' leave_madeP ?k1 (Heap.MadeExc.of (by assumption)) ?k2 ?k3 ?_ ?k6 ?k5; (case k6 => exact rfl); (case k2 => assumption); (case k1 => assumption); (case k3 => k_asm); (case k5 => exact rfl); k_whole; intro h' t' R' U'; (try dsimp only at U' ⊢)) | (refine' leave_indexP ?k1 ?k0 ?k2 ?k3 ?_ ?k6 ?k5; (case k6 => exact rfl); (case k0 => assumption); (case k2 => assumption); (case k1 => assumption); (case k3 => k_asm); (case k5 => exact rfl); k_whole; intro h' R' U'; (try dsimp only at U' ⊢)) | (refine' leave_faultP ?k1 ?k0 ?k2 ?k3 ?_ ?k6 ?k5; (case k6 => exact rfl); (case k0 => assumption); (case k2 => assumption); (case k1 => assumption); (case k3 => k_asm); (case k5 => exact rfl); k_whole; intro h' t' dx' t1' t2' R' U'; (try dsimp only at U' ⊢)) | (refine' leaveOnP rfl ?k0 ?k1 ?k2 ?k3 ?k4 ?_; (case k3 => assumption); (case k0 => exact XIs.still (by assumption)); (case k1 => assumption); (case k2 => assumption); (case k4 => assumption); k_whole; intro h' R' U'; (try dsimp only at U' ⊢)))))
                | (with_reducible (k_here; (with_reducible show wpAny _ _ (call (Value.ref _) _ _) _ _ _); (with_reducible rename Does _ _ _ _ _ _ _ _ _ => hS); k_dflt (refine' hS _ _ _ _ _ _ _ _ _ _ _ _ _ _ _ _ _ _ _ _ _ _ _ _ _ _ ?B ?F ?X ?N ?T ?hk ?hd ?hu ?hn ?hI ?U ?_ ?_; (case B => k_asm); (case F => k_asm); (case X => k_asm); (case N => k_asm); (case T => k_asm); (case hk => exact rfl); (case hd => ((try dsimp only [ktrTop, Around.in1, Around.deeper]); omega)); (case hu => ((try dsimp only [ktrTop, Around.in1, Around.deeper]); omega)); (case hn => assumption); (case hI => assumption); (case U => assumption)); (try clear hS)))
                | walk1 | (dsimp only; walk1) | (leave1; (try dsimp only))))
              exact endU F6 N6 (rs_keep S6 mI14) ⟨frm2_next, rs_off (rs_sub S6 (fun q hq => hq) (fun q hq => rs_keep S6 (up14 q hq))) (rs_ne S94 off9) (fun q hq => off9 q (rs_keep S94 hq))⟩
          case fin4 =>
            intro m10 news10 h10 tk10 hInv10 F10 N10
            obtain ⟨⟨v101, v102, rfl⟩, S10⟩ := hInv10
            (try dsimp only)
            (repeat' (first
              | (k_unfold; (try dsimp only)) | (k_end; wrow_close)
              | ((with_reducible show wpAny _ _ (call (Value.type "enumerate") _ _) _ _ _); with_reducible (k_here; refine unhide ?_))
              | (with_reducible (k_here; (with_reducible show wpAny _ _ (getMethod (Value.ref _) (PySem.Str.ofString "append") _) _ _ _); k_dflt (refine' kl_method ?N ?m PySem.F.slot_list_append PySem.F.type_list_append ?_; (case N => k_asm); (case m => (repeat (first | with_reducible assumption | with_reducible exact List.mem_cons_self .. | with_reducible refine List.mem_cons_of_mem _ ?_))))))
              | ((with_reducible show wpAny _ _ (compareOp CmpOp.Eq (Value.ref _) (Value.ref _)) _ _ _); with_reducible (k_here; refine unhide ?_))
              | ((with_reducible show wpAny _ _ (compareOp CmpOp.NotEq (Value.ref _) (Value.ref _)) _ _ _); with_reducible (k_here; refine unhide ?_))
              | ((with_reducible show wpAny _ _ (subscriptTail (Expr.Name _ _) (Expr.Name _ _) (Value.ref _) (Value.int _ _)) _ _ _); with_reducible (k_here; refine unhide ?_))
              | ((with_reducible show wpAny _ _ (exec (Stmt.For (Expr.Name _ _) (Expr.List _ _) (_ :: _) [] _) _) _ _ _); with_reducible (k_here; (rename Fr _ _ _ _ => lF'); (with_unfolding_all refine' For_turns lF' ?_; k_whole)))
              | (with_reducible (k_here; (with_reducible show wpAny _ _ (call (Value.ref 200) _ _) _ _ _); refine unhide ?_))
              | (with_reducible (k_here; (with_reducible show wpAny _ _ (call (Value.builtin "len") [Value.ref _]) _ _ _); k_dflt (refine' len_any ?k0 ?k1 ?k2 ?_; (case k0 => k_asm); (case k1 => (repeat (first | with_reducible assumption | with_reducible exact List.mem_cons_self .. | with_reducible refine List.mem_cons_of_mem _ ?_))); (case k2 => (simp only [List.size_toArray]; omega)); k_whole)))
              | ((with_reducible show wpAny _ _ (call (Value.builtin "list.append") _ _) _ _ _); with_reducible (k_here; refine unhide ?_))
              | ((with_reducible show wpAny _ _ (binaryOp Operator.Add (Value.ref _) (Value.ref _)) _ _ _); with_reducible (k_here; (with_reducible rename LoopTwo => lT'); refine unhide ?_))
              | ((with_reducible show wpAny _ _ (call (Value.builtin "isinstance") _ _) _ _ _); with_reducible (k_here; refine unhide ?_))
              | (with_reducible (k_here; (with_reducible show wpAny _ _ (call (Value.ref 193) _ _) _ _ _); refine unhide ?_))
              | (with_reducible (k_here; (with_reducible show wpAny _ _ (call (Value.ref 172) _ _) _ _ _); refine unhide ?_))
              | (with_reducible (k_here; (with_reducible show wpAny _ _ (call (Value.ref 165) _ _) _ _ _); refine unhide ?_))
              | (with_reducible (k_here; (with_reducible show wpAny _ _ (pyIter (Value.ref _)) _ _ _); refine unhide ?_))
              | ((with_reducible show wpAny _ _ (exec (Stmt.For (Expr.Tuple _ _ _) (Expr.Name _ _) (_ :: _) [] _) _) _ _ _); with_reducible (k_here; (rename Fr _ _ _ _ => lF'); (with_unfolding_all refine' For_turns lF' ?_; k_whole)))
              | ((with_reducible show wpAny _ _ (exec (Stmt.For (Expr.Name _ _) (Expr.Name _ _) (_ :: _) [] _) _) _ _ _); with_reducible (k_here; (rename Fr _ _ _ _ => lF'); (with_unfolding_all refine' For_turns lF' ?_; k_whole)))
              | ((with_reducible show wpAny _ _ (eval (Expr.ListComp _ _ _ _) _) _ _ _); with_reducible (k_here; k_dflt (refine LCg.ListComp_U (F₀ := by k_asm) (by rfl) (by decide) (by rfl) (by decide) (by rfl) (hide_src ?_))))
              | (with_reducible (k_here; (with_reducible show wpAny _ _ (call (Value.ref 186) _ _) _ _ _); refine unhide ?_))
              | ((with_reducible show wpAny _ _ (exec (Stmt.Assign [_] (Expr.ListComp _ _ _ _) _) _) _ _ _); with_reducible (k_here; k_dflt (refine LCg.Assign_ListComp_U (F₀ := by k_asm) (by rfl) (by with_unfolding_all rfl) (by rfl) (by decide) (by rfl) (by decide) (by rfl) (by rfl) (by rfl) (hide_src ?_))))
              | ((with_reducible show wpAny _ _ (leaving _ (Value.ref _)) _ _ _); with_reducible (k_here; k_dflt (first | (refine' leave_madeP ?k1 (Heap.MadeExc.of (by assumption)) ?k2 ?k3 ?_ ?k6 ?k5; (case k6 => exact rfl); (case k2 => assumption); (case k1 => assumption); (case k3 => k_asm); (case k5 => exact rfl); k_whole; intro h' t' R' U'; (try dsimp only at U' ⊢)) | (refine' leave_indexP ?k1 ?k0 ?k2 ?k3 ?_ ?k6 ?k5; (case k6 => exact rfl); (case k0 => assumption); (case k2 => assumption); (case k1 => assumption); (case k3 => k_asm); (case k5 => exact rfl); k_whole; intro h' R' U'; (try dsimp only at U' ⊢)) | (refine' leave_faultP ?k1 ?k0 ?k2 ?k3 ?_ ?k6 ?k5; (case k6 => exact rfl); (case k0 => assumption); (case k2 => assumption); (case k1 => assumption); (case k3 => k_asm); (case k5 => exact rfl); k_whole; intro h' t' dx' t1' t2' R' U'; (try dsimp only at U' ⊢)) | (refine' leaveOnP rfl ?k0 ?k1 ?k2 ?k3 ?k4 ?_; (case k3 => assumption); (case k0 => exact XIs.still (by assumption)); (case k1 => assumption); (case k2 => assumption); (case k4 => assumption); k_whole; intro h' R' U'; (try dsimp only at U' ⊢)))))
              | (with_reducible (k_here; (with_reducible show wpAny _ _ (call (Value.ref _) _ _) _ _ _); (with_reducible rename Does _ _ _ _ _ _ _ _ _ => hS); k_dflt (refine' hS _ _ _ _ _ _ _ _ _ _ _ _ _ _ _ _ _ _ _ _ _ _ _ _ _ _ ?B ?F ?X ?N ?T ?hk ?hd ?hu ?hn ?hI ?U ?_ ?_; (case B => k_asm); (case F => k_asm); (case X => k_asm); (case N => k_asm); (case T => k_asm); (case hk => exact rfl); (case hd => ((try dsimp only [ktrTop, Around.in1, Around.deeper]); omega)); (case hu => ((try dsimp only [ktrTop, Around.in1, Around.deeper]); omega)); (case hn => assumption); (case hI => assumption); (case U => assumption)); (try clear hS)))
              | walk1 | (dsimp only; walk1) | (leave1; (try dsimp only))))
            unfold Hide
            rename News _ _ _ news10 => N10c
            obtain ⟨T11, N11w, N11, P11, up11, out11⟩ := rs_pre N10c R13.k5 S10 (fun _ h => nomatch h)
            refine' read (by decide) (read_end R13.it R13.di R13.la (by simp only [List.size_toArray]; omega) (by simp only [List.size_toArray]; omega) (by simp only [List.size_toArray]; omega)) handed_index _ _ _ _ _ _ _ _ _ _ _ _ _ _ _ _ _ _ _ _ _ _ _ ?B ?F ?X N11 ?T ?XB ?TB ?D rfl ?hd ?hu P11 ?_
            (case B => k_asm)
            (case F => k_asm)
            (case X => k_asm)
            (case T => k_asm)
            (case XB => k_asm)
            (case TB => k_asm)
            (case D => exact ktsDicts_nil)
            (case hd => exact Nat.le_of_ble_eq_true rfl)
            (case hu => exact Nat.le_of_ble_eq_true rfl)
            intro h₁ h12 tkh12 vh12 nxh12 Rh12 Th12 Bh12 Fh12 Xh12 Nh12 Ph12 Dh12
            replace Fh12 := turn_fr Th12 Fh12
            replace Nh12 := turn_news Th12 Nh12
            clear Bh12 Xh12 Ph12 Dh12 Th12
            obtain ⟨S12, k12, r12⟩ := out11 Rh12
            obtain ⟨th12, rfl⟩ := resR_index r12
            (try dsimp only)
            (repeat' (first
              | (k_unfold; (try dsimp only)) | (k_end; wrow_close)
              | ((with_reducible show wpAny _ _ (call (Value.type "enumerate") _ _) _ _ _); with_reducible (k_here; refine unhide ?_))
              | (with_reducible (k_here; (with_reducible show wpAny _ _ (getMethod (Value.ref _) (PySem.Str.ofString "append") _) _ _ _); k_dflt (refine' kl_method ?N ?m PySem.F.slot_list_append PySem.F.type_list_append ?_; (case N => k_asm); (case m => (repeat (first | with_reducible assumption | with_reducible exact List.mem_cons_self .. | with_reducible refine List.mem_cons_of_mem _ ?_))))))
              | ((with_reducible show wpAny _ _ (compareOp CmpOp.Eq (Value.ref _) (Value.ref _)) _ _ _); with_reducible (k_here; refine unhide ?_))
              | ((with_reducible show wpAny _ _ (compareOp CmpOp.NotEq (Value.ref _) (Value.ref _)) _ _ _); with_reducible (k_here; refine unhide ?_))
              | ((with_reducible show wpAny _ _ (subscriptTail (Expr.Name _ _) (Expr.Name _ _) (Value.ref _) (Value.int _ _)) _ _ _); with_reducible (k_here; refine unhide ?_))
              | ((with_reducible show wpAny _ _ (exec (Stmt.For (Expr.Name _ _) (Expr.List _ _) (_ :: _) [] _) _) _ _ _); with_reducible (k_here; (rename Fr _ _ _ _ => lF'); (with_unfolding_all refine' For_turns lF' ?_; k_whole)))
              | (with_reducible (k_here; (with_reducible show wpAny _ _ (call (Value.ref 200) _ _) _ _ _); refine unhide ?_))
              | (with_reducible (k_here; (with_reducible show wpAny _ _ (call (Value.builtin "len") [Value.ref _]) _ _ _); k_dflt (refine' len_any ?k0 ?k1 ?k2 ?_; (case k0 => k_asm); (case k1 => (repeat (first | with_reducible assumption | with_reducible exact List.mem_cons_self .. | with_reducible refine List.mem_cons_of_mem _ ?_))); (case k2 => (simp only [List.size_toArray]; omega)); k_whole)))
              | ((with_reducible show wpAny _ _ (call (Value.builtin "list.append") _ _) _ _ _); with_reducible (k_here; refine unhide ?_))
              | ((with_reducible show wpAny _ _ (binaryOp Operator.Add (Value.ref _) (Value.ref _)) _ _ _); with_reducible (k_here; (with_reducible rename LoopTwo => lT'); refine unhide ?_))
              | ((with_reducible show wpAny _ _ (call (Value.builtin "isinstance") _ _) _ _ _); with_reducible (k_here; refine unhide ?_))
              | (with_reducible (k_here; (with_reducible show wpAny _ _ (call (Value.ref 193) _ _) _ _ _); refine unhide ?_))
              | (with_reducible (k_here; (with_reducible show wpAny _ _ (call (Value.ref 172) _ _) _ _ _); refine unhide ?_))
              | (with_reducible (k_here; (with_reducible show wpAny _ _ (call (Value.ref 165) _ _) _ _ _); refine unhide ?_))
              | (with_reducible (k_here; (with_reducible show wpAny _ _ (pyIter (Value.ref _)) _ _ _); refine unhide ?_))
              | ((with_reducible show wpAny _ _ (exec (Stmt.For (Expr.Tuple _ _ _) (Expr.Name _ _) (_ :: _) [] _) _) _ _ _); with_reducible (k_here; (rename Fr _ _ _ _ => lF'); (with_unfolding_all refine' For_turns lF' ?_; k_whole)))
              | ((with_reducible show wpAny _ _ (exec (Stmt.For (Expr.Name _ _) (Expr.Name _ _) (_ :: _) [] _) _) _ _ _); with_reducible (k_here; (rename Fr _ _ _ _ => lF'); (with_unfolding_all refine' For_turns lF' ?_; k_whole)))
              | ((with_reducible show wpAny _ _ (eval (Expr.ListComp _ _ _ _) _) _ _ _); with_reducible (k_here; k_dflt (refine LCg.ListComp_U (F₀ := by k_asm) (by rfl) (by decide) (by rfl) (by decide) (by rfl) (hide_src ?_))))
              | (with_reducible (k_here; (with_reducible show wpAny _ _ (call (Value.ref 186) _ _) _ _ _); refine unhide ?_))
              | ((with_reducible show wpAny _ _ (exec (Stmt.Assign [_] (Expr.ListComp _ _ _ _) _) _) _ _ _); with_reducible (k_here; k_dflt (refine LCg.Assign_ListComp_U (F₀ := by k_asm) (by rfl) (by with_unfolding_all rfl) (by rfl) (by decide) (by rfl) (by decide) (by rfl) (by rfl) (by rfl) (hide_src ?_))))
              | ((with_reducible show wpAny _ _ (leaving _ (Value.ref _)) _ _ _); with_reducible (k_here; k_dflt (first | (refine' leave_madeP ?k1 (Heap.MadeExc.of (by assumption)) ?k2 ?k3 ?_ ?k6 ?k5; (case k6 => exact rfl); (case k2 => assumption); (case k1 => assumption); (case k3 => k_asm); (case k5 => exact rfl); k_whole; intro h' t' R' U'; (try dsimp only at U' ⊢)) | (refine' leave_indexP ?k1 ?k0 ?k2 ?k3 ?_ ?k6 ?k5; (case k6 => exact rfl); (case k0 => assumption); (case k2 => assumption); (case k1 => assumption); (case k3 => k_asm); (case k5 => exact rfl); k_whole; intro h' R' U'; (try dsimp only at U' ⊢)) | (refine' leave_faultP ?k1 ?k0 ?k2 ?k3 ?_ ?k6 ?k5; (case k6 => exact rfl); (case k0 => assumption); (case k2 => assumption); (case k1 => assumption); (case k3 => k_asm); (case k5 => exact rfl); k_whole; intro h' t' dx' t1' t2' R' U'; (try dsimp only at U' ⊢)) | (refine' leaveOnP rfl ?k0 ?k1 ?k2 ?k3 ?k4 ?_; (case k3 => assumption); (case k0 => exact XIs.still (by assumption)); (case k1 => assumption); (case k2 => assumption); (case k4 => assumption); k_whole; intro h' R' U'; (try dsimp only at U' ⊢)))))
              | (with_reducible (k_here; (with_reducible show wpAny _ _ (call (Value.ref _) _ _) _ _ _); (with_reducible rename Does _ _ _ _ _ _ _ _ _ => hS); k_dflt (refine' hS _ _ _ _ _ _ _ _ _ _ _ _ _ _ _ _ _ _ _ _ _ _ _ _ _ _ ?B ?F ?X ?N ?T ?hk ?hd ?hu ?hn ?hI ?U ?_ ?_; (case B => k_asm); (case F => k_asm); (case X => k_asm); (case N => k_asm); (case T => k_asm); (case hk => exact rfl); (case hd => ((try dsimp only [ktrTop, Around.in1, Around.deeper]); omega)); (case hu => ((try dsimp only [ktrTop, Around.in1, Around.deeper]); omega)); (case hn => assumption); (case hI => assumption); (case U => assumption)); (try clear hS)))
              | walk1 | (dsimp only; walk1) | (leave1; (try dsimp only))))
            unfold Hide
            rename News _ _ _ nxh12 => N12c
            obtain ⟨T13, nw13w, N13b, P13, up13b, out13⟩ := rs_pre N12c R13.k5 S12 (fun _ h => nomatch h)
            refine' read (by decide) (read_end R13.it R13.di R13.la (by simp only [List.size_toArray]; omega) (by simp only [List.size_toArray]; omega) (by simp only [List.size_toArray]; omega)) handed_index _ _ _ _ _ _ _ _ _ _ _ _ _ _ _ _ _ _ _ _ _ _ _ ?B ?F ?X N13b ?T ?XB ?TB ?D rfl ?hd ?hu P13 ?_
            (case B => k_asm)
            (case F => k_asm)
            (case X => k_asm)
            (case T => k_asm)
            (case XB => k_asm)
            (case TB => k_asm)
            (case D => exact ktsDicts_nil)
            (case hd => exact Nat.le_of_ble_eq_true rfl)
            (case hu => exact Nat.le_of_ble_eq_true rfl)
            intro h₁ h14 tkh14 vh14 nxh14 Rh14 Th14 Bh14 Fh14 Xh14 Nh14 Ph14 Dh14
            replace Fh14 := turn_fr Th14 Fh14
            replace Nh14 := turn_news Th14 Nh14
            clear Bh14 Xh14 Ph14 Dh14 Th14
            obtain ⟨S14, k14, r14⟩ := out13 Rh14
            obtain ⟨th14, rfl⟩ := resR_index r14
            (try dsimp only)
            (repeat' (first
              | (k_unfold; (try dsimp only)) | (k_end; wrow_close)
              | ((with_reducible show wpAny _ _ (call (Value.type "enumerate") _ _) _ _ _); with_reducible (k_here; refine unhide ?_))
              | (with_reducible (k_here; (with_reducible show wpAny _ _ (getMethod (Value.ref _) (PySem.Str.ofString "append") _) _ _ _); k_dflt (refine' kl_method ?N ?m PySem.F.slot_list_append PySem.F.type_list_append ?_; (case N => k_asm); (case m => (repeat (first | with_reducible assumption | with_reducible exact List.mem_cons_self .. | with_reducible refine List.mem_cons_of_mem _ ?_))))))
              | ((with_reducible show wpAny _ _ (compareOp CmpOp.Eq (Value.ref _) (Value.ref _)) _ _ _); with_reducible (k_here; refine unhide ?_))
              | ((with_reducible show wpAny _ _ (compareOp CmpOp.NotEq (Value.ref _) (Value.ref _)) _ _ _); with_reducible (k_here; refine unhide ?_))
              | ((with_reducible show wpAny _ _ (subscriptTail (Expr.Name _ _) (Expr.Name _ _) (Value.ref _) (Value.int _ _)) _ _ _); with_reducible (k_here; refine unhide ?_))
              | ((with_reducible show wpAny _ _ (exec (Stmt.For (Expr.Name _ _) (Expr.List _ _) (_ :: _) [] _) _) _ _ _); with_reducible (k_here; (rename Fr _ _ _ _ => lF'); (with_unfolding_all refine' For_turns lF' ?_; k_whole)))
              | (with_reducible (k_here; (with_reducible show wpAny _ _ (call (Value.ref 200) _ _) _ _ _); refine unhide ?_))
              | (with_reducible (k_here; (with_reducible show wpAny _ _ (call (Value.builtin "len") [Value.ref _]) _ _ _); k_dflt (refine' len_any ?k0 ?k1 ?k2 ?_; (case k0 => k_asm); (case k1 => (repeat (first | with_reducible assumption | with_reducible exact List.mem_cons_self .. | with_reducible refine List.mem_cons_of_mem _ ?_))); (case k2 => (simp only [List.size_toArray]; omega)); k_whole)))
              | ((with_reducible show wpAny _ _ (call (Value.builtin "list.append") _ _) _ _ _); with_reducible (k_here; refine unhide ?_))
              | ((with_reducible show wpAny _ _ (binaryOp Operator.Add (Value.ref _) (Value.ref _)) _ _ _); with_reducible (k_here; (with_reducible rename LoopTwo => lT'); refine unhide ?_))
              | ((with_reducible show wpAny _ _ (call (Value.builtin "isinstance") _ _) _ _ _); with_reducible (k_here; refine unhide ?_))
              | (with_reducible (k_here; (with_reducible show wpAny _ _ (call (Value.ref 193) _ _) _ _ _); refine unhide ?_))
              | (with_reducible (k_here; (with_reducible show wpAny _ _ (call (Value.ref 172) _ _) _ _ _); refine unhide ?_))
              | (with_reducible (k_here; (with_reducible show wpAny _ _ (call (Value.ref 165) _ _) _ _ _); refine unhide ?_))
              | (with_reducible (k_here; (with_reducible show wpAny _ _ (pyIter (Value.ref _)) _ _ _); refine unhide ?_))
              | ((with_reducible show wpAny _ _ (exec (Stmt.For (Expr.Tuple _ _ _) (Expr.Name _ _) (_ :: _) [] _) _) _ _ _); with_reducible (k_here; (rename Fr _ _ _ _ => lF'); (with_unfolding_all refine' For_turns lF' ?_; k_whole)))
              | ((with_reducible show wpAny _ _ (exec (Stmt.For (Expr.Name _ _) (Expr.Name _ _) (_ :: _) [] _) _) _ _ _); with_reducible (k_here; (rename Fr _ _ _ _ => lF'); (with_unfolding_all refine' For_turns lF' ?_; k_whole)))
              | ((with_reducible show wpAny _ _ (eval (Expr.ListComp _ _ _ _) _) _ _ _); with_reducible (k_here; k_dflt (refine LCg.ListComp_U (F₀ := by k_asm) (by rfl) (by decide) (by rfl) (by decide) (by rfl) (hide_src ?_))))
              | (with_reducible (k_here; (with_reducible show wpAny _ _ (call (Value.ref 186) _ _) _ _ _); refine unhide ?_))
              | ((with_reducible show wpAny _ _ (exec (Stmt.Assign [_] (Expr.ListComp _ _ _ _) _) _) _ _ _); with_reducible (k_here; k_dflt (refine LCg.Assign_ListComp_U (F₀ := by k_asm) (by rfl) (by with_unfolding_all rfl) (by rfl) (by decide) (by rfl) (by decide) (by rfl) (by rfl) (by rfl) (hide_src ?_))))
              | ((with_reducible show wpAny _ _ (leaving _ (Value.ref _)) _ _ _); with_reducible (k_here; k_dflt (first | (refine' leave_madeP ?k1 (Heap.MadeExc.of (by assumption)) ?k2 ?k3 ?_ ?k6 ?k5; (case k6 => exact rfl); (case k2 => assumption); (case k1 => assumption); (case k3 => k_asm); (case k5 => exact rfl); k_whole; intro h' t' R' U'; (try dsimp only at U' ⊢)) | (refine' leave_indexP ?k1 ?k0 ?k2 ?k3 ?_ ?k6 ?k5; (case k6 => exact rfl); (case k0 => assumption); (case k2 => assumption); (case k1 => assumption); (case k3 => k_asm); (case k5 => exact rfl); k_whole; intro h' R' U'; (try dsimp only at U' ⊢)) | (refine' leave_faultP ?k1 ?k0 ?k2 ?k3 ?_ ?k6 ?k5; (case k6 => exact rfl); (case k0 => assumption); (case k2 => assumption); (case k1 => assumption); (case k3 => k_asm); (case k5 => exact rfl); k_whole; intro h' t' dx' t1' t2' R' U'; (try dsimp only at U' ⊢)) | (refine' leaveOnP rfl ?k0 ?k1 ?k2 ?k3 ?k4 ?_; (case k3 => assumption); (case k0 => exact XIs.still (by assumption)); (case k1 => assumption); (case k2 => assumption); (case k4 => assumption); k_whole; intro h' R' U'; (try dsimp only at U' ⊢)))))
              | (with_reducible (k_here; (with_reducible show wpAny _ _ (call (Value.ref _) _ _) _ _ _); (with_reducible rename Does _ _ _ _ _ _ _ _ _ => hS); k_dflt (refine' hS _ _ _ _ _ _ _ _ _ _ _ _ _ _ _ _ _ _ _ _ _ _ _ _ _ _ ?B ?F ?X ?N ?T ?hk ?hd ?hu ?hn ?hI ?U ?_ ?_; (case B => k_asm); (case F => k_asm); (case X => k_asm); (case N => k_asm); (case T => k_asm); (case hk => exact rfl); (case hd => ((try dsimp only [ktrTop, Around.in1, Around.deeper]); omega)); (case hu => ((try dsimp only [ktrTop, Around.in1, Around.deeper]); omega)); (case hn => assumption); (case hI => assumption); (case U => assumption)); (try clear hS)))
              | walk1 | (dsimp only; walk1) | (leave1; (try dsimp only))))
            unfold Hide
            rename News _ _ _ (_ :: _ :: nxh14) => N15b
            rename _ < _ ∧ AllLt _ nxh14 => l15
            rename ∀ p ∈ nxh14, _ => l15T
            obtain ⟨nw15, K15, N15, mE15, mT15, mI15, mD15, mA15, S15, k515, kA15, up15, nA515⟩ := open_en N15b S14 R13 l15 l15T
            clear N15b
            have mH15 := up15 _ (up13 _ (toK8 _ mH10 nHC nHO nH8) nH5) nHA
            have mO15 := up15 _ (up13 _ mO8 (Ne.symm n5O)) neOA
            have mc15 := up15 _ (up13 _ (toK8 _ mcH10 ncC ncO nc8) nc5) ncA
            have mT115 := up15 _ (up13 _ (toK8 _ mT110 nT1C nT1O (show @Ne Nat 181 188 by decide)) (show @Ne Nat 181 195 by decide)) nT1A
            have mT215 := up15 _ (up13 _ (toK8 _ mT210 nT2C nT2O (show @Ne Nat 202 188 by decide)) (show @Ne Nat 202 195 by decide)) nT2A
            have mT815 := up15 _ (up13 _ m88 (show @Ne Nat 188 195 by decide)) (Ne.symm neA8)
            rename Fr _ _ _ _ => F15
            refine (let m15 : Str → Option Value := _; have F15L : Fr _ _ _ m15 := F15; ?_)
            clear F15
            refine ktu_enum rfl F15L N15 (rs_keep S15 mE15) rfl rfl rfl (fun I lI => ?_)
            refine enum_rest (enumItems 0 [_, _, _, _]) (EInv _ _ K15 ws9.length) (fun i m n h => rs_keep h.2.2 mE15) ?fin6 ?turn6 4 0 _ _ rfl ⟨frm2T_start, ⟨as8, nA8, mA15, by omega⟩, S15⟩ (fun p hp => Nat.ne_of_lt (Nat.lt_succ_of_lt (lI p hp))) (fun p hp => Nat.ne_of_lt (lI p hp))
            case turn6 =>
              intro QR6 sR6 i6 m6 news6 a6 v6 h6 tk6 o6 o6' hv6 hIs6 hInv6 offI6 offJ6 F6 N6
              obtain ⟨⟨v61, v62, rfl⟩, ⟨as6, nA6, mA6, hl6⟩, S6⟩ := hInv6
              obtain ⟨x6, T6, t6, hx6, rfl, hTup6⟩ := enum_item hv6 hIs6
              have hi6 := (things_at mT15 hx6).1
              (repeat' (first
                | (k_unfold; (try dsimp only)) | (k_end; wrow_close)
                | ((with_reducible show wpAny _ _ (call (Value.type "enumerate") _ _) _ _ _); with_reducible (k_here; refine unhide ?_))
                | (with_reducible (k_here; (with_reducible show wpAny _ _ (getMethod (Value.ref _) (PySem.Str.ofString "append") _) _ _ _); k_dflt (refine' kl_method ?N ?m PySem.F.slot_list_append PySem.F.type_list_append ?_; (case N => k_asm); (case m => (repeat (first | with_reducible assumption | with_reducible exact List.mem_cons_self .. | with_reducible refine List.mem_cons_of_mem _ ?_))))))
                | ((with_reducible show wpAny _ _ (compareOp CmpOp.Eq (Value.ref _) (Value.ref _)) _ _ _); with_reducible (k_here; refine unhide ?_))
                | ((with_reducible show wpAny _ _ (compareOp CmpOp.NotEq (Value.ref _) (Value.ref _)) _ _ _); with_reducible (k_here; refine unhide ?_))
                | ((with_reducible show wpAny _ _ (subscriptTail (Expr.Name _ _) (Expr.Name _ _) (Value.ref _) (Value.int _ _)) _ _ _); with_reducible (k_here; refine unhide ?_))
                | ((with_reducible show wpAny _ _ (exec (Stmt.For (Expr.Name _ _) (Expr.List _ _) (_ :: _) [] _) _) _ _ _); with_reducible (k_here; (rename Fr _ _ _ _ => lF'); (with_unfolding_all refine' For_turns lF' ?_; k_whole)))
                | (with_reducible (k_here; (with_reducible show wpAny _ _ (call (Value.ref 200) _ _) _ _ _); refine unhide ?_))
                | (with_reducible (k_here; (with_reducible show wpAny _ _ (call (Value.builtin "len") [Value.ref _]) _ _ _); k_dflt (refine' len_any ?k0 ?k1 ?k2 ?_; (case k0 => k_asm); (case k1 => (repeat (first | with_reducible assumption | with_reducible exact List.mem_cons_self .. | with_reducible refine List.mem_cons_of_mem _ ?_))); (case k2 => (simp only [List.size_toArray]; omega)); k_whole)))
                | ((with_reducible show wpAny _ _ (call (Value.builtin "list.append") _ _) _ _ _); with_reducible (k_here; refine unhide ?_))
                | ((with_reducible show wpAny _ _ (binaryOp Operator.Add (Value.ref _) (Value.ref _)) _ _ _); with_reducible (k_here; (with_reducible rename LoopTwo => lT'); refine unhide ?_))
                | ((with_reducible show wpAny _ _ (call (Value.builtin "isinstance") _ _) _ _ _); with_reducible (k_here; refine unhide ?_))
                | (with_reducible (k_here; (with_reducible show wpAny _ _ (call (Value.ref 193) _ _) _ _ _); refine unhide ?_))
                | (with_reducible (k_here; (with_reducible show wpAny _ _ (call (Value.ref 172) _ _) _ _ _); refine unhide ?_))
                | (with_reducible (k_here; (with_reducible show wpAny _ _ (call (Value.ref 165) _ _) _ _ _); refine unhide ?_))
                | (with_reducible (k_here; (with_reducible show wpAny _ _ (pyIter (Value.ref _)) _ _ _); refine unhide ?_))
                | ((with_reducible show wpAny _ _ (exec (Stmt.For (Expr.Tuple _ _ _) (Expr.Name _ _) (_ :: _) [] _) _) _ _ _); with_reducible (k_here; (rename Fr _ _ _ _ => lF'); (with_unfolding_all refine' For_turns lF' ?_; k_whole)))
                | ((with_reducible show wpAny _ _ (exec (Stmt.For (Expr.Name _ _) (Expr.Name _ _) (_ :: _) [] _) _) _ _ _); with_reducible (k_here; (rename Fr _ _ _ _ => lF'); (with_unfolding_all refine' For_turns lF' ?_; k_whole)))
                | ((with_reducible show wpAny _ _ (eval (Expr.ListComp _ _ _ _) _) _ _ _); with_reducible (k_here; k_dflt (refine LCg.ListComp_U (F₀ := by k_asm) (by rfl) (by decide) (by rfl) (by decide) (by rfl) (hide_src ?_))))
                | (with_reducible (k_here; (with_reducible show wpAny _ _ (call (Value.ref 186) _ _) _ _ _); refine unhide ?_))
                | ((with_reducible show wpAny _ _ (exec (Stmt.Assign [_] (Expr.ListComp _ _ _ _) _) _) _ _ _); with_reducible (k_here; k_dflt (refine LCg.Assign_ListComp_U (F₀ := by k_asm) (by rfl) (by with_unfolding_all rfl) (by rfl) (by decide) (by rfl) (by decide) (by rfl) (by rfl) (by rfl) (hide_src ?_))))
                | ((with_reducible show wpAny _ _ (leaving _ (Value.ref _)) _ _ _); with_reducible (k_here; k_dflt (first | (refine' leave_madeP ?k1 (Heap.MadeExc.of (by assumption)) ?k2 ?k3 ?_ ?k6 ?k5; (case k6 => exact rfl); (case k2 => assumption); (case k1 => assumption); (case k3 => k_asm); (case k5 => exact rfl); k_whole; intro h' t' R' U'; (try dsimp only at U' ⊢)) | (refine' leave_indexP ?k1 ?k0 ?k2 ?k3 ?_ ?k6 ?k5; (case k6 => exact rfl); (case k0 => assumption); (case k2 => assumption); (case k1 => assumption); (case k3 => k_asm); (case k5 => exact rfl); k_whole; intro h' R' U'; (try dsimp only at U' ⊢)) | (refine' leave_faultP ?k1 ?k0 ?k2 ?k3 ?_ ?k6 ?k5; (case k6 => exact rfl); (case k0 => assumption); (case k2 => assumption); (case k1 => assumption); (case k3 => k_asm); (case k5 => exact rfl); k_whole; intro h' t' dx' t1' t2' R' U'; (try dsimp only at U' ⊢)) | (refine' leaveOnP rfl ?k0 ?k1 ?k2 ?k3 ?k4 ?_; (case k3 => assumption); (case k0 => exact XIs.still (by assumption)); (case k1 => assumption); (case k2 => assumption); (case k4 => assumption); k_whole; intro h' R' U'; (try dsimp only at U' ⊢)))))
                | (with_reducible (k_here; (with_reducible show wpAny _ _ (call (Value.ref _) _ _) _ _ _); (with_reducible rename Does _ _ _ _ _ _ _ _ _ => hS); k_dflt (refine' hS _ _ _ _ _ _ _ _ _ _ _ _ _ _ _ _ _ _ _ _ _ _ _ _ _ _ ?B ?F ?X ?N ?T ?hk ?hd ?hu ?hn ?hI ?U ?_ ?_; (case B => k_asm); (case F => k_asm); (case X => k_asm); (case N => k_asm); (case T => k_asm); (case hk => exact rfl); (case hd => ((try dsimp only [ktrTop, Around.in1, Around.deeper]); omega)); (case hu => ((try dsimp only [ktrTop, Around.in1, Around.deeper]); omega)); (case hn => assumption); (case hI => assumption); (case U => assumption)); (try clear hS)))
                | walk1 | (dsimp only; walk1) | (leave1; (try dsimp only))))
              unfold Hide
              rename News _ _ _ (_ :: _ :: news6) => N6b
              obtain ⟨nw7, g7, N7, U7, i7, m7, e7, b7, lt7⟩ := headedG N6b (.tail _ (.tail _ mA6))
              refine app_U (by k_asm) N7 U7 (by omega) ?_
              intro h8 F8 N8 U8 m8
              rw [e7] at N8
              clear U7 U8 m8 N7 m7 i7 b7 lt7 N6b
              obtain ⟨S8, hB8, mI8, mJ8⟩ := rs_put (o := o6) (o' := o6') (x := x6) (k := nA6 + 1) S6 offI6 offJ6 (Nat.ne_of_lt (Nat.lt_succ_self _)) mA6 nA515 kA15
              obtain ⟨nw8, hn8, N8⟩ : ∃ nw8, nw8 = _ ∧ News _ _ _ nw8 := ⟨_, rfl, N8⟩
              rw [← hn8] at S8 hB8 mI8 mJ8
              (try dsimp only)
              (repeat' (first
                | (k_unfold; (try dsimp only)) | (k_end; wrow_close)
                | ((with_reducible show wpAny _ _ (call (Value.type "enumerate") _ _) _ _ _); with_reducible (k_here; refine unhide ?_))
                | (with_reducible (k_here; (with_reducible show wpAny _ _ (getMethod (Value.ref _) (PySem.Str.ofString "append") _) _ _ _); k_dflt (refine' kl_method ?N ?m PySem.F.slot_list_append PySem.F.type_list_append ?_; (case N => k_asm); (case m => (repeat (first | with_reducible assumption | with_reducible exact List.mem_cons_self .. | with_reducible refine List.mem_cons_of_mem _ ?_))))))
                | ((with_reducible show wpAny _ _ (compareOp CmpOp.Eq (Value.ref _) (Value.ref _)) _ _ _); with_reducible (k_here; refine unhide ?_))
                | ((with_reducible show wpAny _ _ (compareOp CmpOp.NotEq (Value.ref _) (Value.ref _)) _ _ _); with_reducible (k_here; refine unhide ?_))
                | ((with_reducible show wpAny _ _ (subscriptTail (Expr.Name _ _) (Expr.Name _ _) (Value.ref _) (Value.int _ _)) _ _ _); with_reducible (k_here; refine unhide ?_))
                | ((with_reducible show wpAny _ _ (exec (Stmt.For (Expr.Name _ _) (Expr.List _ _) (_ :: _) [] _) _) _ _ _); with_reducible (k_here; (rename Fr _ _ _ _ => lF'); (with_unfolding_all refine' For_turns lF' ?_; k_whole)))
                | (with_reducible (k_here; (with_reducible show wpAny _ _ (call (Value.ref 200) _ _) _ _ _); refine unhide ?_))
                | (with_reducible (k_here; (with_reducible show wpAny _ _ (call (Value.builtin "len") [Value.ref _]) _ _ _); k_dflt (refine' len_any ?k0 ?k1 ?k2 ?_; (case k0 => k_asm); (case k1 => (repeat (first | with_reducible assumption | with_reducible exact List.mem_cons_self .. | with_reducible refine List.mem_cons_of_mem _ ?_))); (case k2 => (simp only [List.size_toArray]; omega)); k_whole)))
                | ((with_reducible show wpAny _ _ (call (Value.builtin "list.append") _ _) _ _ _); with_reducible (k_here; refine unhide ?_))
                | ((with_reducible show wpAny _ _ (binaryOp Operator.Add (Value.ref _) (Value.ref _)) _ _ _); with_reducible (k_here; (with_reducible rename LoopTwo => lT'); refine unhide ?_))
                | ((with_reducible show wpAny _ _ (call (Value.builtin "isinstance") _ _) _ _ _); with_reducible (k_here; refine unhide ?_))
                | (with_reducible (k_here; (with_reducible show wpAny _ _ (call (Value.ref 193) _ _) _ _ _); refine unhide ?_))
                | (with_reducible (k_here; (with_reducible show wpAny _ _ (call (Value.ref 172) _ _) _ _ _); refine unhide ?_))
                | (with_reducible (k_here; (with_reducible show wpAny _ _ (call (Value.ref 165) _ _) _ _ _); refine unhide ?_))
                | (with_reducible (k_here; (with_reducible show wpAny _ _ (pyIter (Value.ref _)) _ _ _); refine unhide ?_))
                | ((with_reducible show wpAny _ _ (exec (Stmt.For (Expr.Tuple _ _ _) (Expr.Name _ _) (_ :: _) [] _) _) _ _ _); with_reducible (k_here; (rename Fr _ _ _ _ => lF'); (with_unfolding_all refine' For_turns lF' ?_; k_whole)))
                | ((with_reducible show wpAny _ _ (exec (Stmt.For (Expr.Name _ _) (Expr.Name _ _) (_ :: _) [] _) _) _ _ _); with_reducible (k_here; (rename Fr _ _ _ _ => lF'); (with_unfolding_all refine' For_turns lF' ?_; k_whole)))
                | ((with_reducible show wpAny _ _ (eval (Expr.ListComp _ _ _ _) _) _ _ _); with_reducible (k_here; k_dflt (refine LCg.ListComp_U (F₀ := by k_asm) (by rfl) (by decide) (by rfl) (by decide) (by rfl) (hide_src ?_))))
                | (with_reducible (k_here; (with_reducible show wpAny _ _ (call (Value.ref 186) _ _) _ _ _); refine unhide ?_))
                | ((with_reducible show wpAny _ _ (exec (Stmt.Assign [_] (Expr.ListComp _ _ _ _) _) _) _ _ _); with_reducible (k_here; k_dflt (refine LCg.Assign_ListComp_U (F₀ := by k_asm) (by rfl) (by with_unfolding_all rfl) (by rfl) (by decide) (by rfl) (by decide) (by rfl) (by rfl) (by rfl) (hide_src ?_))))
                | ((with_reducible show wpAny _ _ (leaving _ (Value.ref _)) _ _ _); with_reducible (k_here; k_dflt (first | (refine' leave_madeP ?k1 (Heap.MadeExc.of (by assumption)) ?k2 ?k3 ?_ ?k6 ?k5; (case k6 => exact rfl); (case k2 => assumption); (case k1 => assumption); (case k3 => k_asm); (case k5 => exact rfl); k_whole; intro h' t' R' U'; (try dsimp only at U' ⊢)) | (refine' leave_indexP ?k1 ?k0 ?k2 ?k3 ?_ ?k6 ?k5; (case k6 => exact rfl); (case k0 => assumption); (case k2 => assumption); (case k1 => assumption); (case k3 => k_asm); (case k5 => exact rfl); k_whole; intro h' R' U'; (try dsimp only at U' ⊢)) | (refine' leave_faultP ?k1 ?k0 ?k2 ?k3 ?_ ?k6 ?k5; (case k6 => exact rfl); (case k0 => assumption); (case k2 => assumption); (case k1 => assumption); (case k3 => k_asm); (case k5 => exact rfl); k_whole; intro h' t' dx' t1' t2' R' U'; (try dsimp only at U' ⊢)) | (refine' leaveOnP rfl ?k0 ?k1 ?k2 ?k3 ?k4 ?_; (case k3 => assumption); (case k0 => exact XIs.still (by assumption)); (case k1 => assumption); (case k2 => assumption); (case k4 => assumption); k_whole; intro h' R' U'; (try dsimp only at U' ⊢)))))
                | (with_reducible (k_here; (with_reducible show wpAny _ _ (call (Value.ref _) _ _) _ _ _); (with_reducible rename Does _ _ _ _ _ _ _ _ _ => hS); k_dflt (refine' hS _ _ _ _ _ _ _ _ _ _ _ _ _ _ _ _ _ _ _ _ _ _ _ _ _ _ ?B ?F ?X ?N ?T ?hk ?hd ?hu ?hn ?hI ?U ?_ ?_; (case B => k_asm); (case F => k_asm); (case X => k_asm); (case N => k_asm); (case T => k_asm); (case hk => exact rfl); (case hd => ((try dsimp only [ktrTop, Around.in1, Around.deeper]); omega)); (case hu => ((try dsimp only [ktrTop, Around.in1, Around.deeper]); omega)); (case hn => assumption); (case hI => assumption); (case U => assumption)); (try clear hS)))
                | walk1 | (dsimp only; walk1) | (leave1; (try dsimp only))))
              unfold Hide
              rename News _ _ _ nw8 => N8c
              obtain ⟨T9, nw9', N9', P9', up9', out9⟩ := rs_pre N8c (ne5_cons nA515 k515) S8 hB8
              refine' read (by decide) (read_thing (.tail _ mI15) (.tail _ mD15) (.head _) (at_last (by simp only [List.size_toArray]; omega) (by omega)) (things_at (.tail _ mT15) hx6).2) handed_value _ _ _ _ _ _ _ _ _ _ _ _ _ _ _ _ _ _ _ _ _ _ _ ?B ?F ?X N9' ?T ?XB ?TB ?D rfl ?hd ?hu P9' ?_
              (case B => k_asm)
              (case F => k_asm)
              (case X => k_asm)
              (case T => k_asm)
              (case XB => k_asm)
              (case TB => k_asm)
              (case D => exact ktsDicts_nil)
              (case hd => exact Nat.le_of_ble_eq_true rfl)
              (case hu => exact Nat.le_of_ble_eq_true rfl)
              intro h₁ h9 tk9 v9 nx9 R9 T9' B9 F9 X9 N9c P9 D9
              replace F9 := turn_fr T9' F9
              replace N9c := turn_news T9' N9c
              clear B9 X9 P9 D9 T9'
              obtain ⟨S9b, k9, r9⟩ := out9 R9
              obtain ⟨t9, tk9', rfl, ht9⟩ := resR_value r9
              have nI9 := k9 _ mI8 (rs_ne S6 offI6)
              have nJ9 := k9 _ mJ8 (rs_ne S6 offJ6)
              (try dsimp only)
              (repeat' (first
                | (k_unfold; (try dsimp only)) | (k_end; wrow_close)
                | ((with_reducible show wpAny _ _ (call (Value.type "enumerate") _ _) _ _ _); with_reducible (k_here; refine unhide ?_))
                | (with_reducible (k_here; (with_reducible show wpAny _ _ (getMethod (Value.ref _) (PySem.Str.ofString "append") _) _ _ _); k_dflt (refine' kl_method ?N ?m PySem.F.slot_list_append PySem.F.type_list_append ?_; (case N => k_asm); (case m => (repeat (first | with_reducible assumption | with_reducible exact List.mem_cons_self .. | with_reducible refine List.mem_cons_of_mem _ ?_))))))
                | ((with_reducible show wpAny _ _ (compareOp CmpOp.Eq (Value.ref _) (Value.ref _)) _ _ _); with_reducible (k_here; refine unhide ?_))
                | ((with_reducible show wpAny _ _ (compareOp CmpOp.NotEq (Value.ref _) (Value.ref _)) _ _ _); with_reducible (k_here; refine unhide ?_))
                | ((with_reducible show wpAny _ _ (subscriptTail (Expr.Name _ _) (Expr.Name _ _) (Value.ref _) (Value.int _ _)) _ _ _); with_reducible (k_here; refine unhide ?_))
                | ((with_reducible show wpAny _ _ (exec (Stmt.For (Expr.Name _ _) (Expr.List _ _) (_ :: _) [] _) _) _ _ _); with_reducible (k_here; (rename Fr _ _ _ _ => lF'); (with_unfolding_all refine' For_turns lF' ?_; k_whole)))
                | (with_reducible (k_here; (with_reducible show wpAny _ _ (call (Value.ref 200) _ _) _ _ _); refine unhide ?_))
                | (with_reducible (k_here; (with_reducible show wpAny _ _ (call (Value.builtin "len") [Value.ref _]) _ _ _); k_dflt (refine' len_any ?k0 ?k1 ?k2 ?_; (case k0 => k_asm); (case k1 => (repeat (first | with_reducible assumption | with_reducible exact List.mem_cons_self .. | with_reducible refine List.mem_cons_of_mem _ ?_))); (case k2 => (simp only [List.size_toArray]; omega)); k_whole)))
                | ((with_reducible show wpAny _ _ (call (Value.builtin "list.append") _ _) _ _ _); with_reducible (k_here; refine unhide ?_))
                | ((with_reducible show wpAny _ _ (binaryOp Operator.Add (Value.ref _) (Value.ref _)) _ _ _); with_reducible (k_here; (with_reducible rename LoopTwo => lT'); refine unhide ?_))
                | ((with_reducible show wpAny _ _ (call (Value.builtin "isinstance") _ _) _ _ _); with_reducible (k_here; refine unhide ?_))
                | (with_reducible (k_here; (with_reducible show wpAny _ _ (call (Value.ref 193) _ _) _ _ _); refine unhide ?_))
                | (with_reducible (k_here; (with_reducible show wpAny _ _ (call (Value.ref 172) _ _) _ _ _); refine unhide ?_))
                | (with_reducible (k_here; (with_reducible show wpAny _ _ (call (Value.ref 165) _ _) _ _ _); refine unhide ?_))
                | (with_reducible (k_here; (with_reducible show wpAny _ _ (pyIter (Value.ref _)) _ _ _); refine unhide ?_))
                | ((with_reducible show wpAny _ _ (exec (Stmt.For (Expr.Tuple _ _ _) (Expr.Name _ _) (_ :: _) [] _) _) _ _ _); with_reducible (k_here; (rename Fr _ _ _ _ => lF'); (with_unfolding_all refine' For_turns lF' ?_; k_whole)))
                | ((with_reducible show wpAny _ _ (exec (Stmt.For (Expr.Name _ _) (Expr.Name _ _) (_ :: _) [] _) _) _ _ _); with_reducible (k_here; (rename Fr _ _ _ _ => lF'); (with_unfolding_all refine' For_turns lF' ?_; k_whole)))
                | ((with_reducible show wpAny _ _ (eval (Expr.ListComp _ _ _ _) _) _ _ _); with_reducible (k_here; k_dflt (refine LCg.ListComp_U (F₀ := by k_asm) (by rfl) (by decide) (by rfl) (by decide) (by rfl) (hide_src ?_))))
                | (with_reducible (k_here; (with_reducible show wpAny _ _ (call (Value.ref 186) _ _) _ _ _); refine unhide ?_))
                | ((with_reducible show wpAny _ _ (exec (Stmt.Assign [_] (Expr.ListComp _ _ _ _) _) _) _ _ _); with_reducible (k_here; k_dflt (refine LCg.Assign_ListComp_U (F₀ := by k_asm) (by rfl) (by with_unfolding_all rfl) (by rfl) (by decide) (by rfl) (by decide) (by rfl) (by rfl) (by rfl) (hide_src ?_))))
                | ((with_reducible show wpAny _ _ (leaving _ (Value.ref _)) _ _ _); with_reducible (k_here; k_dflt (first | (refine' leave_madeP ?k1 (Heap.MadeExc.of (by assumption)) ?k2 ?k3 ?_ ?k6 ?k5; (case k6 => exact rfl); (case k2 => assumption); (case k1 => assumption); (case k3 => k_asm); (case k5 => exact rfl); k_whole; intro h' t' R' U'; (try dsimp only at U' ⊢)) | (refine' leave_indexP ?k1 ?k0 ?k2 ?k3 ?_ ?k6 ?k5; (case k6 => exact rfl); (case k0 => assumption); (case k2 => assumption); (case k1 => assumption); (case k3 => k_asm); (case k5 => exact rfl); k_whole; intro h' R' U'; (try dsimp only at U' ⊢)) | (refine' leave_faultP ?k1 ?k0 ?k2 ?k3 ?_ ?k6 ?k5; (case k6 => exact rfl); (case k0 => assumption); (case k2 => assumption); (case k1 => assumption); (case k3 => k_asm); (case k5 => exact rfl); k_whole; intro h' t' dx' t1' t2' R' U'; (try dsimp only at U' ⊢)) | (refine' leaveOnP rfl ?k0 ?k1 ?k2 ?k3 ?k4 ?_; (case k3 => assumption); (case k0 => exact XIs.still (by assumption)); (case k1 => assumption); (case k2 => assumption); (case k4 => assumption); k_whole; intro h' R' U'; (try dsimp only at U' ⊢)))))
                | (with_reducible (k_here; (with_reducible show wpAny _ _ (call (Value.ref _) _ _) _ _ _); (with_reducible rename Does _ _ _ _ _ _ _ _ _ => hS); k_dflt (refine' hS _ _ _ _ _ _ _ _ _ _ _ _ _ _ _ _ _ _ _ _ _ _ _ _ _ _ ?B ?F ?X ?N ?T ?hk ?hd ?hu ?hn ?hI ?U ?_ ?_; (case B => k_asm); (case F => k_asm); (case X => k_asm); (case N => k_asm); (case T => k_asm); (case hk => exact rfl); (case hd => ((try dsimp only [ktrTop, Around.in1, Around.deeper]); omega)); (case hu => ((try dsimp only [ktrTop, Around.in1, Around.deeper]); omega)); (case hn => assumption); (case hI => assumption); (case U => assumption)); (try clear hS)))
                | walk1 | (dsimp only; walk1) | (leave1; (try dsimp only))))
              unfold Hide
              rename News _ _ _ (_ :: nx9) => N10b
              refine unexp_ne N10b (.tail _ ht9) (.head _) ?hu _ _ _ _ ?_
              case hu => first | k_units | exact Nat.lt_of_lt_of_le (Nat.lt_of_ble_eq_true rfl) (Nat.le_refl _)
              (repeat' (first
                | (k_unfold; (try dsimp only)) | (k_end; wrow_close)
                | ((with_reducible show wpAny _ _ (call (Value.type "enumerate") _ _) _ _ _); with_reducible (k_here; refine unhide ?_))
                | (with_reducible (k_here; (with_reducible show wpAny _ _ (getMethod (Value.ref _) (PySem.Str.ofString "append") _) _ _ _); k_dflt (refine' kl_method ?N ?m PySem.F.slot_list_append PySem.F.type_list_append ?_; (case N => k_asm); (case m => (repeat (first | with_reducible assumption | with_reducible exact List.mem_cons_self .. | with_reducible refine List.mem_cons_of_mem _ ?_))))))
                | ((with_reducible show wpAny _ _ (compareOp CmpOp.Eq (Value.ref _) (Value.ref _)) _ _ _); with_reducible (k_here; refine unhide ?_))
                | ((with_reducible show wpAny _ _ (compareOp CmpOp.NotEq (Value.ref _) (Value.ref _)) _ _ _); with_reducible (k_here; refine unhide ?_))
                | ((with_reducible show wpAny _ _ (subscriptTail (Expr.Name _ _) (Expr.Name _ _) (Value.ref _) (Value.int _ _)) _ _ _); with_reducible (k_here; refine unhide ?_))
                | ((with_reducible show wpAny _ _ (exec (Stmt.For (Expr.Name _ _) (Expr.List _ _) (_ :: _) [] _) _) _ _ _); with_reducible (k_here; (rename Fr _ _ _ _ => lF'); (with_unfolding_all refine' For_turns lF' ?_; k_whole)))
                | (with_reducible (k_here; (with_reducible show wpAny _ _ (call (Value.ref 200) _ _) _ _ _); refine unhide ?_))
                | (with_reducible (k_here; (with_reducible show wpAny _ _ (call (Value.builtin "len") [Value.ref _]) _ _ _); k_dflt (refine' len_any ?k0 ?k1 ?k2 ?_; (case k0 => k_asm); (case k1 => (repeat (first | with_reducible assumption | with_reducible exact List.mem_cons_self .. | with_reducible refine List.mem_cons_of_mem _ ?_))); (case k2 => (simp only [List.size_toArray]; omega)); k_whole)))
                | ((with_reducible show wpAny _ _ (call (Value.builtin "list.append") _ _) _ _ _); with_reducible (k_here; refine unhide ?_))
                | ((with_reducible show wpAny _ _ (binaryOp Operator.Add (Value.ref _) (Value.ref _)) _ _ _); with_reducible (k_here; (with_reducible rename LoopTwo => lT'); refine unhide ?_))
                | ((with_reducible show wpAny _ _ (call (Value.builtin "isinstance") _ _) _ _ _); with_reducible (k_here; refine unhide ?_))
                | (with_reducible (k_here; (with_reducible show wpAny _ _ (call (Value.ref 193) _ _) _ _ _); refine unhide ?_))
                | (with_reducible (k_here; (with_reducible show wpAny _ _ (call (Value.ref 172) _ _) _ _ _); refine unhide ?_))
                | (with_reducible (k_here; (with_reducible show wpAny _ _ (call (Value.ref 165) _ _) _ _ _); refine unhide ?_))
                | (with_reducible (k_here; (with_reducible show wpAny _ _ (pyIter (Value.ref _)) _ _ _); refine unhide ?_))
                | ((with_reducible show wpAny _ _ (exec (Stmt.For (Expr.Tuple _ _ _) (Expr.Name _ _) (_ :: _) [] _) _) _ _ _); with_reducible (k_here; (rename Fr _ _ _ _ => lF'); (with_unfolding_all refine' For_turns lF' ?_; k_whole)))
                | ((with_reducible show wpAny _ _ (exec (Stmt.For (Expr.Name _ _) (Expr.Name _ _) (_ :: _) [] _) _) _ _ _); with_reducible (k_here; (rename Fr _ _ _ _ => lF'); (with_unfolding_all refine' For_turns lF' ?_; k_whole)))
                | ((with_reducible show wpAny _ _ (eval (Expr.ListComp _ _ _ _) _) _ _ _); with_reducible (k_here; k_dflt (refine LCg.ListComp_U (F₀ := by k_asm) (by rfl) (by decide) (by rfl) (by decide) (by rfl) (hide_src ?_))))
                | (with_reducible (k_here; (with_reducible show wpAny _ _ (call (Value.ref 186) _ _) _ _ _); refine unhide ?_))
                | ((with_reducible show wpAny _ _ (exec (Stmt.Assign [_] (Expr.ListComp _ _ _ _) _) _) _ _ _); with_reducible (k_here; k_dflt (refine LCg.Assign_ListComp_U (F₀ := by k_asm) (by rfl) (by with_unfolding_all rfl) (by rfl) (by decide) (by rfl) (by decide) (by rfl) (by rfl) (by rfl) (hide_src ?_))))
                | ((with_reducible show wpAny _ _ (leaving _ (Value.ref _)) _ _ _); with_reducible (k_here; k_dflt (first | (refine' leave_madeP ?k1 (Heap.MadeExc.of (by assumption)) ?k2 ?k3 ?_ ?k6 ?k5; (case k6 => exact rfl); (case k2 => assumption); (case k1 => assumption); (case k3 => k_asm); (case k5 => exact rfl); k_whole; intro h' t' R' U'; (try dsimp only at U' ⊢)) | (refine' leave_indexP ?k1 ?k0 ?k2 ?k3 ?_ ?k6 ?k5; (case k6 => exact rfl); (case k0 => assumption); (case k2 => assumption); (case k1 => assumption); (case k3 => k_asm); (case k5 => exact rfl); k_whole; intro h' R' U'; (try dsimp only at U' ⊢)) | (refine' leave_faultP ?k1 ?k0 ?k2 ?k3 ?_ ?k6 ?k5; (case k6 => exact rfl); (case k0 => assumption); (case k2 => assumption); (case k1 => assumption); (case k3 => k_asm); (case k5 => exact rfl); k_whole; intro h' t' dx' t1' t2' R' U'; (try dsimp only at U' ⊢)) | (refine' leaveOnP rfl ?k0 ?k1 ?k2 ?k3 ?k4 ?_; (case k3 => assumption); (case k0 => exact XIs.still (by assumption)); (case k1 => assumption); (case k2 => assumption); (case k4 => assumption); k_whole; intro h' R' U'; (try dsimp only at U' ⊢)))))
                | (with_reducible (k_here; (with_reducible show wpAny _ _ (call (Value.ref _) _ _) _ _ _); (with_reducible rename Does _ _ _ _ _ _ _ _ _ => hS); k_dflt (refine' hS _ _ _ _ _ _ _ _ _ _ _ _ _ _ _ _ _ _ _ _ _ _ _ _ _ _ ?B ?F ?X ?N ?T ?hk ?hd ?hu ?hn ?hI ?U ?_ ?_; (case B => k_asm); (case F => k_asm); (case X => k_asm); (case N => k_asm); (case T => k_asm); (case hk => exact rfl); (case hd => ((try dsimp only [ktrTop, Around.in1, Around.deeper]); omega)); (case hu => ((try dsimp only [ktrTop, Around.in1, Around.deeper]); omega)); (case hn => assumption); (case hI => assumption); (case U => assumption)); (try clear hS)))
                | walk1 | (dsimp only; walk1) | (leave1; (try dsimp only))))
              exact endW2 (by k_asm) N10b (.tail _ nI9) (.tail _ nJ9) (einv_next frm2T_next S9b (fun q hq => .tail _ hq) S6 offI6 offJ6 mA6 (rs_keep S9b (.head _)) (by simp only [List.length_append, List.length_cons, List.length_nil]; omega))
            case fin6 =>
              intro m11 news11 h11 tk11 hInv11 F11 N11
              obtain ⟨⟨v111, v112, rfl⟩, ⟨as11, nA11, mA11, hl11⟩, S11⟩ := hInv11
              have S11' := S11
              have mH11 := rs_keep S11 mH15
              have mO11 := rs_keep S11 mO15
              have mc11 := rs_keep S11 mc15
              (try dsimp only)
              walk1
              walk1
              walk1
              walk1
              walk1
              (try dsimp only)
              refine ints_eq N11 mH11 mO11 hiH hiO9 ?hu _ _ _ _ ?_
              case hu => first | k_units | exact Nat.lt_of_lt_of_le (Nat.lt_of_ble_eq_true rfl) (Nat.le_refl _)
              obtain ⟨ps5, T5, m511, _⟩ := S11
              refine hQL _ _ ?_
              (try dsimp only)
              refine And.intro ?good ⟨GrownAt.of N11 m511, GrownAt.of N11 (rs_keep S11' mT815), GrownAt.of N11 (rs_keep S11' mT115), GrownAt.of N11 (rs_keep S11' mT215), True.intro⟩
              case good => k_steps)
end Mine
end
theorem PySem.Challenge.cw_kn0109_04_holds : PySem.Challenge.rw_kn0109_04.Holds :=
  Mine.whole
