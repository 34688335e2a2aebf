import PyProof.Rows.All
import Wide.All
import OpenK.AllK
import Wide.FinOn
import PySem.Challenge.RW_dn0234_05
set_option Elab.async false
set_option maxRecDepth 100000
set_option maxHeartbeats 8000000
open PySem PySem.W PyProof.Rows PySem.Calls
namespace Mine

/-! heaps: everything is kept, but the slots of the frames S may turn -/
structure Kp (S : List Addr) (h h' : Heap) : Prop where
  keep : ∀ b o, h.get? b = some o → b ∉ S → h'.get? b = some o
  slot : ∀ b o, h.get? b = some o → ∃ sl, h'.get? b = some { o with slots := sl }

theorem Kp.refl (S : List Addr) (h : Heap) : Kp S h h := ⟨fun _ _ e _ => e, fun _ o e => ⟨o.slots, e⟩⟩
theorem Kp.trans {S : List Addr} {a b c : Heap} (x : Kp S a b) (y : Kp S b c) : Kp S a c :=
  ⟨fun d o e n => y.keep d o (x.keep d o e n) n, fun d o e => let ⟨_, e₁⟩ := x.slot d o e; let ⟨sl, e₂⟩ := y.slot d _ e₁; ⟨sl, e₂⟩⟩
theorem Kp.of_keep {S : List Addr} {h h' : Heap} (k : ∀ b o, h.get? b = some o → h'.get? b = some o) : Kp S h h' :=
  ⟨fun b o e _ => k b o e, fun b o e => ⟨o.slots, k b o e⟩⟩
theorem Kp.mono {S S' : List Addr} {h h' : Heap} (x : Kp S h h') (hs : ∀ b, b ∈ S → b ∈ S') : Kp S' h h' :=
  ⟨fun b o e n => x.keep b o e fun q => n (hs b q), x.slot⟩
theorem Kp.of_slotsOnly {S : List Addr} {h h' : Heap} (x : Heap.SlotsOnly S h h') : Kp S h h' :=
  ⟨fun b _ e n => (x.2.1 b n).trans e, x.2.2⟩
theorem Kp.ns {S : List Addr} {h h' : Heap} {a : Addr} {m : Str → Option Value} (x : Kp S h h') (hn : h.Ns a m) : h'.Ns a m := by
  obtain ⟨o, es, ep, ho, hd, r⟩ := hn
  obtain ⟨sl, hs⟩ := x.slot a o ho
  exact ⟨_, es, ep, hs, hd, r⟩
theorem Kp.frames {S : List Addr} {h h' base : Heap} {l : List Env} (x : Kp S h h') (hl : h.FunFrames base l) : h'.FunFrames base l :=
  hl.of_keeps fun b o e _ => let ⟨_, e'⟩ := x.slot b o e; ⟨_, e', rfl⟩
theorem Kp.fresh {S : List Addr} {h h' : Heap} (x : Kp S h h') : h.get? h'.objs.size = none := by
  cases hq : h.get? h'.objs.size with
  | none => rfl
  | some o => obtain ⟨sl, e⟩ := x.slot _ _ hq; exact absurd (Heap.lt_size e) (Nat.lt_irrefl _)

/-- an exception on its way: everything of hm stands, e is new -/
structure Fly (hm : Addr → Option Obj) (S : List Addr) (e : Addr) (cls : String) (tr : Bool) (c : Value) (h : Heap) : Prop where
  keep : ∀ b o, hm b = some o → b ∉ S → h.get? b = some o
  slot : ∀ b o, hm b = some o → ∃ sl, h.get? b = some { o with slots := sl }
  new : hm e = none
  there : ∃ oe vs, h.get? e = some oe ∧ oe.cls = .type cls ∧ oe.data = .fields vs ∧ vs.size = 6 ∧ vs[2]? = some c ∧
    (match tr with
     | false => vs[1]? = some .none
     | true => ∃ T oT ts, vs[1]? = some (.ref T) ∧ hm T = none ∧ T ≠ e ∧ h.get? T = some oT ∧ oT.data = .fields ts ∧ 3 < ts.size)

theorem Fly.of_new {hm h : Heap} {S : List Addr} {e : Addr} {cls : String} (x : Heap.NewExc hm h e cls) : Fly hm.get? S e cls false .none h := by
  obtain ⟨ob, t, he, hc, hd⟩ := x.there
  exact ⟨fun b o q _ => x.keeps b o q, fun b o q => ⟨o.slots, x.keeps b o q⟩, x.new, ob, _, he, hc, hd, rfl, rfl, rfl⟩
theorem Fly.kp {hm h : Heap} {S : List Addr} {e : Addr} {cls : String} {tr : Bool} {c : Value} (x : Fly hm.get? S e cls tr c h) : Kp S hm h := ⟨x.keep, x.slot⟩
/-- another thing to keep in view while e is on its way -/
theorem Fly.anew {hm : Addr → Option Obj} {h h' : Heap} {S : List Addr} {e L : Addr} {cls : String} {c : Value} (x : Fly hm S e cls true c h) (hL : ∃ es n o, h.get? L = some o ∧ o.data = .dict es n)
    (k : ∀ b o, b ≠ L → h.get? b = some o → h'.get? b = some o) : ∃ hm' : Addr → Option Obj, Fly hm' S e cls true c h' ∧ ∀ b o, hm b ≠ none → h'.get? b = some o → hm' b = some o := by
  obtain ⟨_, _, ne, oe, vs, he, hc, hd, hsz, h2, T, oT, ts, h1, nT, hTe, gT, dT, sT⟩ := x
  obtain ⟨es, n, oL, q1, q2⟩ := hL
  have heL : e ≠ L := fun q => by rw [q, q1] at he; cases he; rw [q2] at hd; cases hd
  have hTL : T ≠ L := fun q => by rw [q, q1] at gT; cases gT; rw [q2] at dT; cases dT
  refine ⟨fun b => if b = e ∨ b = T then none else h'.get? b, ⟨fun b o q _ => ?_, fun b o q => ⟨o.slots, ?_⟩, by simp, oe, vs, k _ _ heL he, hc, hd, hsz, h2, T, oT, ts, h1, by simp, hTe, k _ _ hTL gT, dT, sT⟩, fun b o nb q => ?_⟩
  · split at q
    · cases q
    · exact q
  · split at q
    · cases q
    · exact q
  · show (if _ then _ else _) = _
    rw [if_neg]
    · exact q
    · rintro (r | r)
      · exact nb (by rw [r, ne])
      · exact nb (by rw [r, nT])

section
variable {M : Model} {A : Around} {E : Value → Shared → Prop} {s : Shared} {base : Heap} {hm : Addr → Option Obj} {env : Env} {outer : List Env} {L e : Addr} {cls : String} {tr : Bool} {c : Value} {S : List Addr}

theorem not_frame {l : List Env} {h : Heap} (hl : h.FunFrames base l) {b : Addr} {o : Obj} {vs : Array Value} (ho : h.get? b = some o) (hd : o.data = .fields vs) : b ∉ l.filterMap (·.frame) := fun hb => by
  obtain ⟨_, o', ho', nf⟩ := hl.mem hb
  rw [ho] at ho'; cases ho'; exact nf vs hd

theorem entry_ {head : Value} {hadNext : Bool} {oe : Obj} {vs : Array Value} {Q : Unit → Shared → Prop}
    (hfr : A.frames = some (env :: outer)) (hl : s.heap.FunFrames base (env :: outer)) (hf : env.frame = some L)
    (keep : ∀ b o, hm b = some o → b ∉ (env :: outer).filterMap (·.frame) → s.heap.get? b = some o) (slot : ∀ b o, hm b = some o → ∃ sl, s.heap.get? b = some { o with slots := sl }) (new : hm e = none)
    (he : s.heap.get? e = some oe) (hc : oe.cls = .type cls) (hd : oe.data = .fields vs) (hsz : vs.size = 6) (h2 : vs[2]? = some c)
    (h : ∀ h', Fly hm ((env :: outer).filterMap (·.frame)) e cls true c h' → h'.FunFrames base (env :: outer) → Q () { s with heap := h' }) :
    wpAny M A (do let a ← frameOf env; let pl ← entryPlaceOf L hadNext; let b ← EntryCells.newEntry head a .none (rawInt L) .none pl; setField (.ref e) 1 b) Q E s := by
  have hene := not_frame hl he hd
  refine wpAny_bind (wpAny_frameOf_fun hfr hl hf fun h₁ hs₁ => ?_)
  refine wpAny_bind (wpAny_entryPlaceOf fun pl hpl => ?_)
  unfold EntryCells.newEntry newFields
  refine wpAny_bind (wpAny_newObj_type ?_ (hpl.sizeOk5 _ _ _ _ _))
  have he₁ : h₁.get? e = some oe := (hs₁.2.1 e hene).trans he
  have he₂ := Heap.get?_push_of_some (h := h₁) { cls := .type "traceback", dict := none, data := .fields ([head, .ref L, .none, rawInt L, .none] ++ (if pl.isEmpty then List.replicate 6 Value.none else pl)).toArray } he₁
  have hTe : h₁.objs.size ≠ e := Nat.ne_of_gt (Heap.lt_size he₁)
  have hd₃ := Obj.data_mapFields hd (·.setIfInBounds 1 (Value.ref h₁.objs.size))
  have he₃ := Heap.get?_update_self (Obj.mapFields (·.setIfInBounds 1 (Value.ref h₁.objs.size))) he₂ (Obj.isFreed_of_fields hd₃)
  have hT₃ := (Heap.get?_update_other (h₁.push { cls := .type "traceback", dict := none, data := .fields ([head, .ref L, .none, rawInt L, .none] ++ (if pl.isEmpty then List.replicate 6 Value.none else pl)).toArray })
    (Obj.mapFields (·.setIfInBounds 1 (Value.ref h₁.objs.size))) (Ne.symm hTe)).trans (Heap.get?_push_size h₁ rfl)
  have keep1 : ∀ b o, hm b = some o → b ∉ (env :: outer).filterMap (·.frame) → h₁.get? b = some o := fun b o q n => (hs₁.2.1 b n).trans (keep b o q n)
  have slot1 : ∀ b o, hm b = some o → ∃ sl, h₁.get? b = some { o with slots := sl } := fun b o q => by
    obtain ⟨sl, q'⟩ := slot b o q
    obtain ⟨sl', q''⟩ := hs₁.2.2 b _ q'
    exact ⟨sl', q''⟩
  have nn : hm h₁.objs.size = none := by
    cases q : hm h₁.objs.size with
    | none => rfl
    | some o => obtain ⟨sl, q'⟩ := slot1 _ _ q; exact absurd (Heap.lt_size q') (Nat.lt_irrefl _)
  have up : ∀ b o, b ≠ e → h₁.get? b = some o → ((h₁.push { cls := .type "traceback", dict := none, data := .fields ([head, .ref L, .none, rawInt L, .none] ++ (if pl.isEmpty then List.replicate 6 Value.none else pl)).toArray }).update e (Obj.mapFields (·.setIfInBounds 1 (Value.ref h₁.objs.size)))).get? b = some o := fun b o n q => by
    rw [Heap.get?_update_other _ _ (Ne.symm n)]; exact Heap.get?_push_of_some _ q
  refine wpAny_setField he₂ hd (by omega) (h _ ⟨fun b o hb n => ?_, fun b o hb => ?_, new, _, _, he₃, ?_, hd₃, ?_, ?_, h₁.objs.size, _, _, ?_, nn, hTe, hT₃, rfl, ?_⟩ ?_)
  · exact up b o (fun q => by rw [q, new] at hb; cases hb) (keep1 b o hb n)
  · obtain ⟨sl, q⟩ := slot1 b o hb
    exact ⟨sl, up b _ (fun q => by rw [q, new] at hb; cases hb) q⟩
  · rw [Obj.cls_mapFields]; exact hc
  · rw [Array.size_setIfInBounds]; exact hsz
  · rw [Array.getElem?_setIfInBounds_ne (by decide)]; exact h2
  · simp [hsz]
  · simp only [List.size_toArray, List.length_append, List.length_cons, List.length_nil] <;> omega
  · refine hl.of_keeps fun b o hb nf => ?_
    obtain ⟨sl, q⟩ := hs₁.2.2 b o hb
    exact ⟨_, up b _ (fun q' => by rw [q', he] at hb; cases hb; exact nf _ hd) q, rfl⟩

theorem note_ {Q : Unit → Shared → Prop} (hfr : A.frames = some (env :: outer)) (hl : s.heap.FunFrames base (env :: outer)) (hf : env.frame = some L)
    (X : Fly hm ((env :: outer).filterMap (·.frame)) e cls tr c s.heap)
    (h : ∀ h', Fly hm ((env :: outer).filterMap (·.frame)) e cls true c h' → h'.FunFrames base (env :: outer) → Q () { s with heap := h' }) : wpAny M A (noteFrame (.ref e) env) Q E s := by
  obtain ⟨keep, slot, new, oe, vs, he, hc, hd, hsz, h2, hT⟩ := id X
  unfold noteFrame
  simp only [hf]
  cases tr with
  | false =>
    refine wpAny_bind (wpAny_field he hd hT ?_)
    rw [if_neg (by decide)]
    exact entry_ hfr hl hf keep slot new he hc hd hsz h2 h
  | true =>
    obtain ⟨T, oT, ts, h1, nT, hTe, gT, dT, sT⟩ := hT
    refine wpAny_bind (wpAny_field he hd h1 ?_)
    rw [if_pos (show (Value.ref T != Value.none) = true from by simp)]
    refine wpAny_bind (wpAny_field gT dT (Array.getElem?_eq_getElem sT) ?_)
    by_cases hq : (ts[3] == rawInt L) = true
    · rw [if_pos hq]
      exact wpAny_pure (h _ X hl)
    · rw [if_neg hq]
      refine wpAny_bind (wpAny_setField gT dT sT ?_)
      have other : ∀ b, b ≠ T → (s.heap.update T (Obj.mapFields (·.setIfInBounds 3 Value.none))).get? b = s.heap.get? b := fun b hb => Heap.get?_update_other _ _ (Ne.symm hb)
      have nb : ∀ b o, hm b = some o → b ≠ T := fun b o hb q => by rw [q, nT] at hb; cases hb
      refine entry_ (s := { s with heap := s.heap.update T (Obj.mapFields (·.setIfInBounds 3 Value.none)) }) hfr (hl.of_keeps fun b o hb nf => ⟨o, (other b fun q => ?_).trans hb, rfl⟩) hf (fun b o hb n => ?_) (fun b o hb => ?_) new ((other e (Ne.symm hTe)).trans he) hc hd hsz h2 h
      · rw [q, gT] at hb; cases hb; exact nf _ dT
      · exact (other b (nb b o hb)).trans (keep b o hb n)
      · obtain ⟨sl, q⟩ := slot b o hb
        exact ⟨sl, (other b (nb b o hb)).trans q⟩

theorem flight_ {fr : Option Addr} {Q : Unit → Shared → Prop} {l : List Env} (X : Fly hm S e cls tr c s.heap) (hl : s.heap.FunFrames base l)
    (h : ∀ h', Fly hm S e cls tr c h' → h'.FunFrames base l → Q () { s with heap := h' }) : wpAny M A (setFlight (.ref e) fr) Q E s := by
  obtain ⟨keep, slot, new, oe, vs, he, hc, hd, hsz, h2, hT⟩ := id X
  unfold setFlight
  cases tr with
  | false =>
    refine wpAny_bind (wpAny_field he hd hT ?_)
    rw [if_neg (by decide)]
    exact wpAny_pure (h _ X hl)
  | true =>
    obtain ⟨T, oT, ts, h1, nT, hTe, gT, dT, sT⟩ := hT
    refine wpAny_bind (wpAny_field he hd h1 ?_)
    rw [if_pos (show (Value.ref T != Value.none) = true from by simp)]
    have other : ∀ v b, b ≠ T → (s.heap.update T (Obj.mapFields (·.setIfInBounds 3 v))).get? b = s.heap.get? b := fun v b hb => Heap.get?_update_other _ _ (Ne.symm hb)
    have nb : ∀ b o, hm b = some o → b ≠ T := fun b o hb q => by rw [q, nT] at hb; cases hb
    refine wpAny_setField gT dT sT (h _ ⟨fun b o hb n => (other _ b (nb b o hb)).trans (keep b o hb n), fun b o hb => ?_, new, oe, vs, (other _ e (Ne.symm hTe)).trans he, hc, hd, hsz, h2, T, _, _, h1, nT, hTe,
      Heap.get?_update_self _ gT (Obj.isFreed_of_fields (Obj.data_mapFields dT _)), Obj.data_mapFields dT _, by rw [Array.size_setIfInBounds]; exact sT⟩ (hl.of_keeps fun b o hb nf => ⟨o, (other _ b fun q => ?_).trans hb, rfl⟩))
    · obtain ⟨sl, q⟩ := slot b o hb
      exact ⟨sl, (other _ b (nb b o hb)).trans q⟩
    · rw [q, gT] at hb; cases hb; exact nf _ dT

theorem field1_ {Q : Value → Shared → Prop} (X : Fly hm S e cls true c s.heap) (h : ∀ T, Q (.ref T) s) : wpAny M A (field (.ref e) 1) Q E s := by
  obtain ⟨_, _, new, oe, vs, he, hc, hd, hsz, h2, T, oT, ts, h1, _⟩ := id X
  exact wpAny_field he hd h1 (h T)

theorem came_ {l : List Env} (X : Fly hm S e cls true c s.heap) (hl : s.heap.FunFrames base l) (h : ∀ h', Fly hm S e cls true c h' → h'.FunFrames base l → E (.ref e) { s with heap := h' }) : cameBackBy M A env E (.ref e) s := by
  unfold cameBackBy
  refine wpAny_bind (field1_ X fun T => ?_)
  rw [if_neg (show ¬ ((Value.ref T == Value.none) = true) from by simp)]
  first | exact flight_ X hl h | exact wpAny_bind (wpAny_pure (flight_ X hl h))

theorem passOn_ {α : Type} {what : String} {Q : α → Shared → Prop} {l : List Env} (X : Fly hm S e cls true c s.heap) (hl : s.heap.FunFrames base l) (h : ∀ h', Fly hm S e cls true c h' → h'.FunFrames base l → E (.ref e) { s with heap := h' }) :
    wpAny M A (PySem.passOn what (.ref e) env : Sem α) Q E s := by
  unfold PySem.passOn
  refine wpAny_bind (field1_ X fun T => ?_)
  rw [if_neg (show ¬ ((Value.ref T == Value.none) = true) from by simp)]
  first | exact wpAny_bind (flight_ X hl fun h' X' hl' => wpAny_throw (h h' X' hl')) | exact wpAny_bind (wpAny_pure (wpAny_bind (flight_ X hl fun h' X' hl' => wpAny_throw (h h' X' hl'))))

theorem noted_ (hfr : A.frames = some (env :: outer)) (hl : s.heap.FunFrames base (env :: outer)) (hf : env.frame = some L)
    (X : Fly hm ((env :: outer).filterMap (·.frame)) e cls tr c s.heap)
    (h : ∀ h', Fly hm ((env :: outer).filterMap (·.frame)) e cls true c h' → h'.FunFrames base (env :: outer) → E (.ref e) { s with heap := h' }) : notedBy M A env E (.ref e) s :=
  note_ hfr hl hf X h

theorem leaving_ {Q : Unit → Shared → Prop} (hfr : A.frames = some (env :: outer)) (hl : s.heap.FunFrames base (env :: outer)) (hf : env.frame = some L)
    (X : Fly hm ((env :: outer).filterMap (·.frame)) e cls tr c s.heap)
    (h : ∀ h', Fly hm ((env :: outer).filterMap (·.frame)) e cls true c h' → h'.FunFrames base (env :: outer) → Q () { s with heap := h' }) : wpAny M A (leaving env (.ref e)) Q E s := by
  unfold leaving
  exact wpAny_bind (note_ hfr hl hf X fun h' X' hl' => flight_ (s := { s with heap := h' }) X' hl' fun h'' X'' hl'' => h h'' X'' hl'')
end

open PySem PySem.W PyProof.Rows PySem.Calls

/-- what is handled at hand: nothing, or an exception without a context -/
def Hd (A : Around) (h : Heap) : Prop :=
  A.handled = none ∨ ∃ e o vs, A.handled = some (.ref e) ∧ h.get? e = some o ∧ o.data = .fields vs ∧ vs[2]? = some .none

theorem Hd.keep {A : Around} {h h' : Heap} (x : Hd A h) (k : ∀ b o, h.get? b = some o → h'.get? b = some o) : Hd A h' :=
  x.imp id fun ⟨e, o, vs, a, b, c⟩ => ⟨e, o, vs, a, k _ _ b, c⟩

theorem entry_unchain : entryFor table "proto.unchain" = some Builtin.«proto.unchain» := entryFor_of_tree (by kernel_rfl)

section
variable {prog : Program} {w : World} {α : Type} {A : Around} {E : Value → Shared → Prop} {s : Shared} {S : List Addr}

theorem raiseNew_any {e : Addr} {oe : Obj} {t : Value} {hm : Heap} {cls : String} {Q : α → Shared → Prop} (hd : Hd A hm) (kp : ∀ b o, hm.get? b = some o → s.heap.get? b = some o) (new : hm.get? e = none)
    (he : s.heap.get? e = some oe) (hc : oe.cls = .type cls) (hD : oe.data = .fields #[t, .none, .none, .none, .bool false, .none])
    (h : ∀ h' c, Fly hm.get? S e cls false c h' → (A.handled = none → c = .none) → E (.ref e) { s with heap := h' }) : wpAny (model prog w) A (raiseNew (.ref e) : Sem α) Q E s := by
  unfold raiseNew
  refine wpAny_bind (wpAny_handled ?_)
  rcases hd with hd | ⟨e1, o1, vs1, hd, g1, d1, c1⟩
  · rw [hd]
    have q : Fly hm.get? S e cls false .none s.heap := ⟨fun b o q _ => kp b o q, fun b o q => ⟨o.slots, kp b o q⟩, new, oe, _, he, hc, hD, rfl, rfl, rfl⟩
    first
      | exact wpAny_throw (h _ _ q fun _ => rfl)
      | exact wpAny_bind (wpAny_pure (wpAny_throw (h _ _ q fun _ => rfl)))
  · rw [hd]
    have ne : e1 ≠ e := fun q => by rw [q, new] at g1; cases g1
    have hne : (Value.ref e1 != Value.ref e) = true := by simp [ne]
    simp only [hne, if_true]
    refine wpAny_bind (wpAny_holding (wpAny_runValue (codeAny_builtin entry_unchain ?_)))
    unfold Builtin.«proto.unchain»
    dsimp only
    refine wpAny_bind (wpAny_field (kp _ _ g1) d1 c1 ?_)
    simp only [beq_self_eq_true, if_true]
    refine wpAny_pure ?_
    dsimp only
    refine wpAny_bind ?_
    unfold updateField
    refine wpAny_bind (wpAny_load he ?_)
    rw [hD]
    simp only [show (2 : Nat) < (#[t, Value.none, .none, .none, .bool false, .none] : Array Value).size from by simp, if_true]
    refine wpAny_update he (wpAny_throw (h _ (.ref e1) ⟨fun b o hb _ => ?_, fun b o hb => ⟨o.slots, ?_⟩, new, _, _, Heap.get?_update_self _ he (Obj.isFreed_of_fields (Obj.data_mapFields hD _)), ?_, Obj.data_mapFields hD _, ?_, ?_, ?_⟩ fun q => by rw [hd] at q; cases q))
    · rw [Heap.get?_update_other _ _ (fun q => by rw [← q, new] at hb; cases hb)]; exact kp b o hb
    · rw [Heap.get?_update_other _ _ (fun q => by rw [← q, new] at hb; cases hb)]; exact kp b o hb
    · rw [Obj.cls_mapFields]; exact hc
    · simp
    · simp
    · simp

theorem raiseWords_any {cls msg : String} {Q : α → Shared → Prop} (hp : PlainExc cls) (hd : Hd A s.heap)
    (h : ∀ h' tk e c, Fly s.heap.get? S e cls false c h' → (A.handled = none → c = .none) → E (.ref e) { s with heap := h', toks := tk }) :
    wpAny (model prog w) A (raiseErrorWords cls msg : Sem α) Q E s := by
  unfold raiseErrorWords
  refine wpAny_bind (wpAny_mkText (wpAny_bind ?_))
  unfold newExc newTuple
  refine wpAny_bind (wpAny_newObj_type ?_)
  refine wpAny_bind (m := firstArgMember _ _) (wpAny_of_eq (a := Value.none) (by simp only [firstArgMember, hp.first]; rfl) ?_)
  rw [hp.own]
  refine wpAny_newObj_type ?_
  refine raiseNew_any (hm := s.heap) (t := .ref s.heap.objs.size) hd (fun b o hb => Heap.get?_push_of_some _ (Heap.get?_push_of_some _ hb)) ?_ (Heap.get?_push_size _ rfl) rfl ?_ fun h' c X hc => h h' _ _ c X hc
  · exact Heap.get?_none_of_le (by simp)
  · simp

theorem raiseMade_any {cls msg : String} {Q : α → Shared → Prop} (hp : PlainExc cls) (hd : Hd A s.heap)
    (h : ∀ h' tk e c, Fly s.heap.get? S e cls false c h' → (A.handled = none → c = .none) → E (.ref e) { s with heap := h', toks := tk }) (hm : (msg : Str).length ≤ sizeLine := by size_fits) :
    wpAny (model prog w) A (raiseErrorMade cls msg : Sem α) Q E s := by
  unfold raiseErrorMade
  refine wpAny_bind (wpAny_mkStr (wpAny_bind ?_) hm)
  unfold newExc newTuple
  refine wpAny_bind (wpAny_newObj_type ?_)
  refine wpAny_bind (m := firstArgMember _ _) (wpAny_of_eq (a := Value.none) (by simp only [firstArgMember, hp.first]; rfl) ?_)
  rw [hp.own]
  refine wpAny_newObj_type ?_
  refine raiseNew_any (hm := s.heap) (t := .ref s.heap.objs.size) hd (fun b o hb => Heap.get?_push_of_some _ (Heap.get?_push_of_some _ hb)) ?_ (Heap.get?_push_size _ rfl) rfl ?_ fun h' c X hc => h h' _ _ c X hc
  · exact Heap.get?_none_of_le (by simp)
  · simp
end

section
variable {prog : Program} {w : World} {A : Around} {E : Value → Shared → Prop} {s : Shared} {S : List Addr}

theorem Hd.in1 {h : Heap} (x : Hd A h) : Hd A.in1 h := x

/-- xs[k] beyond a list's end -/
theorem getItem_list_out {l : Addr} {items : Array Value} {k : Int} {t : Tok} {Q : Value → Shared → Prop} (hd : Hd A s.heap) (hl : s.heap.IsList l items)
    (hout : (items.size : Int) ≤ k) (hhi : k < 2 ^ 63)
    (hE : ∀ h' tk e c, Fly s.heap.get? S e "IndexError" false c h' → (A.handled = none → c = .none) → E (.ref e) { s with heap := h', toks := tk }) :
    wpAny (model prog w) A (getItem (.ref l) (.int k t)) Q E s := by
  obtain ⟨o, ho, hc, ne, hD⟩ := id hl
  unfold getItem
  try with_reducible refine wpAny_holding ?_
  first | refine wpAny_bind (wpAny_pure ?_) | skip
  refine wpAny_bind (wpAny_sequenceKey hl.typeIs (by decide) ?_)
  refine wpAny_bind (wpAny_callSpecial?_slot (name := Str.ofString "__getitem__") hl.typeIs slot_list_getitem
    (wpAny_call_entry slot_list_getitem hl.typeIs entry_list_getitem ?_ (args_list_getitem _ _)))
  show wpAny _ _ (Builtin.List.listSubscript? (.int k t) >>= _) _ _ s
  refine wpAny_bind (wpAny_listSubscript_int (fitsIndex_both (by omega) hhi) ?_)
  clear hhi
  obtain ⟨j, rfl⟩ := Int.eq_ofNat_of_zero_le (show 0 ≤ k by omega)
  have hx : items[j]? = none := Array.getElem?_eq_none (by omega)
  show wpAny _ _ ((seqItemAt l j >>= fun r => pure (r.map (j, ·))) >>= _) _ _ s
  refine wpAny_bind (wpAny_bind (wpAny_seqItemAt ho hD (wpAny_pure ?_)))
  rw [hx]
  first
    | exact wpAny_bind (wpAny_rule (raiseWords_any plainExc_IndexError hd hE))
    | exact wpAny_bind (wpAny_rule (wpAny_bind (raiseWords_any plainExc_IndexError hd hE)))
    | exact wpAny_bind (wpAny_bind (wpAny_rule (raiseWords_any plainExc_IndexError hd hE)))
    | exact wpAny_rule (raiseWords_any plainExc_IndexError hd hE)
end

open PySem PySem.W PyProof.Rows PySem.Calls

abbrev upd (m : Str → Option Value) (x : Str) (v : Value) : Str → Option Value := fun y => if y = x then some v else m y
theorem upd_same {m : Str → Option Value} {x : Str} {v : Value} : upd m x v x = some v := if_pos rfl
theorem upd_ne {m : Str → Option Value} {x y : Str} {v : Value} {r : Option Value} (hn : y ≠ x) (h : m y = r) : upd m x v y = r := (if_neg hn).trans h

inductive All2 {α β : Type} (R : α → β → Prop) : List α → List β → Prop
  | nil : All2 R [] []
  | cons {a b as bs} : R a b → All2 R as bs → All2 R (a :: as) (b :: bs)
theorem All2.length {α β : Type} {R : α → β → Prop} {as : List α} {bs : List β} (h : All2 R as bs) : as.length = bs.length := by
  induction h with
  | nil => rfl
  | cons _ _ ih => simp [ih]
theorem All2.append {α β : Type} {R : α → β → Prop} {as cs : List α} {bs ds : List β} (h : All2 R as bs) (k : All2 R cs ds) : All2 R (as ++ cs) (bs ++ ds) := by
  induction h with
  | nil => exact k
  | cons r _ ih => exact .cons r ih
theorem All2.get {α β : Type} {R : α → β → Prop} {as : List α} {bs : List β} (h : All2 R as bs) : ∀ (i : Nat) (h1 : i < as.length) (h2 : i < bs.length), R as[i] bs[i] := by
  induction h with
  | nil => intro i h1; exact absurd h1 (Nat.not_lt_zero _)
  | cons r _ ih =>
    intro i h1 h2
    cases i with
    | zero => exact r
    | succ i => exact ih i (Nat.lt_of_succ_lt_succ h1) (Nat.lt_of_succ_lt_succ h2)
theorem All2.drop {α β : Type} {R : α → β → Prop} {as : List α} {bs : List β} (h : All2 R as bs) : ∀ i : Nat, All2 R (as.drop i) (bs.drop i) := by
  induction h with
  | nil => intro i; simp; exact .nil
  | cons r k ih =>
    intro i
    cases i with
    | zero => exact .cons r k
    | succ i => exact ih i

/-- the state grows: nothing that stood has changed -/
structure Grow (s s' : Shared) : Prop where
  keep : ∀ b o, s.heap.get? b = some o → s'.heap.get? b = some o
  os : s'.os = s.os
  gens : s'.gens = s.gens
theorem Grow.refl (s : Shared) : Grow s s := ⟨fun _ _ e => e, rfl, rfl⟩
theorem Grow.trans {a b c : Shared} (x : Grow a b) (y : Grow b c) : Grow a c := ⟨fun d o e => y.keep d o (x.keep d o e), y.os.trans x.os, y.gens.trans x.gens⟩
theorem Grow.toks (s : Shared) (t : Nat) : Grow s { s with toks := t } := ⟨fun _ _ e => e, rfl, rfl⟩
theorem Grow.push (s : Shared) (o : Obj) (t : Nat) : Grow s { s with heap := s.heap.push o, toks := t } := ⟨fun _ _ e => Heap.get?_push_of_some _ e, rfl, rfl⟩

/-- all but the object at L stands -/
structure ExL (L : Addr) (s s' : Shared) : Prop where
  keep : ∀ b o, b ≠ L → s.heap.get? b = some o → s'.heap.get? b = some o
  os : s'.os = s.os
  gens : s'.gens = s.gens
theorem ExL.refl (L : Addr) (s : Shared) : ExL L s s := ⟨fun _ _ _ e => e, rfl, rfl⟩
theorem ExL.trans {L : Addr} {a b c : Shared} (x : ExL L a b) (y : ExL L b c) : ExL L a c := ⟨fun d o n e => y.keep d o n (x.keep d o n e), y.os.trans x.os, y.gens.trans x.gens⟩
theorem Grow.exL {L : Addr} {a b : Shared} (x : Grow a b) : ExL L a b := ⟨fun d o _ e => x.keep d o e, x.os, x.gens⟩

theorem frGrow {h₀ : Heap} {L : Addr} {s s' : Shared} {m : Str → Option Value} (F : Fr h₀ L s.heap m) (g : Grow s s') : Fr h₀ L s'.heap m :=
  ⟨F.ns.keeps g.keep, fun b o e => g.keep b o (F.keep b o e), F.above⟩
theorem kpGrow {S : List Addr} {h₀ : Heap} {s s' : Shared} (k : Kp S h₀ s.heap) (g : Grow s s') : Kp S h₀ s'.heap := k.trans (.of_keep g.keep)
theorem kpExL {S : List Addr} {h₀ : Heap} {L : Addr} {s s' : Shared} (k : Kp S h₀ s.heap) (g : ExL L s s') (n : h₀.get? L = none) : Kp S h₀ s'.heap :=
  ⟨fun b o e nS => g.keep b o (fun q => by rw [q, n] at e; cases e) (k.keep b o e nS),
   fun b o e => let ⟨sl, q⟩ := k.slot b o e; ⟨sl, g.keep b _ (fun q => by rw [q, n] at e; cases e) q⟩⟩
theorem hdExL {A : Around} {L : Addr} {s s' : Shared} (x : Hd A s.heap) (g : ExL L s s') (hL : ∃ es n o, s.heap.get? L = some o ∧ o.data = .dict es n) : Hd A s'.heap := by
  refine x.imp id fun ⟨e, o, vs, a, b, c, d⟩ => ⟨e, o, vs, a, g.keep _ _ (fun q => ?_) b, c, d⟩
  obtain ⟨es, n, oL, q1, q2⟩ := hL
  rw [q, q1] at b; cases b; rw [q2] at c; cases c
theorem frDict {h₀ : Heap} {L : Addr} {h : Heap} {m : Str → Option Value} (F : Fr h₀ L h m) : ∃ es n o, h.get? L = some o ∧ o.data = .dict es n := by
  obtain ⟨o, es, ep, ho, hd, _⟩ := F.ns
  exact ⟨es, ep, o, ho, hd⟩

section
variable {M : Model} {A : Around} {E : Value → Shared → Prop} {s : Shared} {name : Str} {scope : Scope} {L a : Addr} {cd : Value} {h₀ : Heap} {m : Str → Option Value}

theorem st_ {x : Str} {v : Value} {Q : Unit → Shared → Prop} (F : Fr h₀ L s.heap m)
    (h : ∀ s', Fr h₀ L s'.heap (upd m x v) → ExL L s s' → Q () s')
    (hk : scope.kind = .function := by rfl) (hl : (envOf name scope L a cd).kindOf x = some .local := by rfl) :
    wpAny M A (storeName (envOf name scope L a cd) x v) Q E s :=
  wpAny_storeName_local hl F.ns (fun _ hn hs => h _ (F.set hn hs) ⟨fun b _ n e => (hs.2 b n).trans e, rfl, rfl⟩)
    (by show (scope.kind == .class || (scope.kind == .module && L != mainGlobals)) = false; rw [hk]; rfl)
end

/-- a sequence value (a list, a text) that a function reads: its items, its end, its rest from i on -/
structure Sq (prog : Program) (w : World) {α : Type} (S : List Addr) (h₀ : Heap) (Rep : Value → α → Prop) (V : Value) (X : List α) : Prop where
  len : X.length < 100000
  get : ∀ {A : Around} {E : Value → Shared → Prop} {s : Shared} {Q : Value → Shared → Prop} {value : Expr} {x : Str} {p : Pos} {i : Nat} {t : Tok} (_ : Kp S h₀ s.heap) (hi : i < X.length)
    (_ : ∀ v s', Grow s s' → Rep v X[i] → Q v s'), wpAny (model prog w) A (subscriptTail value (.Name x p) V (.int i t)) Q E s
  out : ∀ {A : Around} {E : Value → Shared → Prop} {s : Shared} {S' : List Addr} {Q : Value → Shared → Prop} {value : Expr} {x : Str} {p : Pos} {i : Nat} {t : Tok} (_ : Kp S h₀ s.heap) (_ : Hd A s.heap) (_ : X.length ≤ i) (_ : i < 200000)
    (_ : ∀ h' tk e c, Fly s.heap.get? S' e "IndexError" false c h' → (A.handled = none → c = .none) → E (.ref e) { s with heap := h', toks := tk }),
    wpAny (model prog w) A (subscriptTail value (.Name x p) V (.int i t)) Q E s
  cut : ∀ {A : Around} {E : Value → Shared → Prop} {s : Shared} {Q : Value → Shared → Prop} {value : Expr} {lo : Option Expr} {p : Pos} {i : Nat} {t : Tok} {sl aM : Addr} {ms : List Value} {n : Nat} (_ : Kp S h₀ s.heap) (_ : A.units < 9000)
    (_ : s.heap.IsSliceOf sl (.int i t) .none .none) (_ : i ≤ X.length) (_ : s.heap.get? aM = some (listOf ms.toArray n)) (_ : ms.length < 100000) (_ : h₀.get? aM = none)
    (_ : ∀ s' vs n', ExL aM s s' → s'.heap.get? aM = some (listOf (ms ++ vs).toArray n') → All2 Rep vs (X.drop i) → Q .none s'),
    wpAny (model prog w) A (subscriptTail value (.Slice lo none none p) V (.ref sl)) (fun W s₁ => wpAny (model prog w) A (call (.builtin "list.extend") [.ref aM, W]) Q E s₁) E s

/-- equality of two items -/
def EqOk (prog : Program) (w : World) {α : Type} (S : List Addr) (h₀ : Heap) (Rep : Value → α → Prop) (eq : α → α → Bool) : Prop :=
  ∀ {A : Around} {E : Value → Shared → Prop} {s : Shared} {Q : Value → Shared → Prop} {v u : Value} {x y : α}, Kp S h₀ s.heap → A.units < 9000 → Rep v x → Rep u y →
    (∀ s', Grow s s' → Q (.bool (eq x y)) s') → wpAny (model prog w) A (compareOp .Eq v u) Q E s

section
variable {prog : Program} {w : World} {α : Type} {S : List Addr} {base h₀ : Heap} {Rep : Value → α → Prop} {V : Value} {X : List α} {eq : α → α → Bool}
  {A : Around} {E : Value → Shared → Prop} {s : Shared} {name : Str} {scope : Scope} {L a : Addr} {cd : Value} {m : Str → Option Value} {outer : List Env}

theorem mkFrames {h : Heap} (B0 : h₀.FunFrames base outer) (kp : Kp S h₀ h) (F : Fr base L h m) (hk : scope.kind = .function := by rfl) : h.FunFrames base (envOf name scope L a cd :: outer) :=
  .cons (by show scope.kind ≠ .module; rw [hk]; decide) rfl F.ns (by
    cases hq : base.get? L with
    | none => rfl
    | some o => exact absurd (Nat.lt_of_lt_of_le (Heap.lt_size hq) F.above) (Nat.lt_irrefl _)) (kp.frames B0)

theorem frKp {h h' : Heap} (F : Fr base L h m) (k : Kp (L :: S) h h') (hS : ∀ b ∈ S, base.get? b = none) : Fr base L h' m := by
  refine ⟨k.ns F.ns, fun b o e => k.keep b o (F.keep b o e) fun q => ?_, F.above⟩
  rcases List.mem_cons.mp q with q | q
  · exact absurd (Nat.lt_of_lt_of_le (Heap.lt_size e) F.above) (by rw [q]; exact Nat.lt_irrefl _)
  · rw [hS b q] at e; cases e

theorem kpDrop {h h' : Heap} (k : Kp S h₀ h) (k' : Kp (L :: S) h h') (hn : h₀.get? L = none) : Kp S h₀ h' := by
  refine ⟨fun b o e n => k'.keep b o (k.keep b o e n) fun q => ?_, fun b o e => let ⟨_, e₁⟩ := k.slot b o e; let ⟨sl, e₂⟩ := k'.slot b _ e₁; ⟨sl, e₂⟩⟩
  rcases List.mem_cons.mp q with q | q
  · rw [q, hn] at e; cases e
  · exact n q
theorem mkFramesX {h h' : Heap} (B0 : h₀.FunFrames base outer) (kp : Kp (outer.filterMap (·.frame)) h₀ h) (F : Fr base L h m) (k' : Kp (L :: outer.filterMap (·.frame)) h h') (hn : h₀.get? L = none) (hk : scope.kind = .function := by rfl) :
    h'.FunFrames base (envOf name scope L a cd :: outer) :=
  mkFrames B0 (kpDrop kp k' hn) (frKp F k' fun _ hb => (B0.mem hb).1) hk

/-- «while xs[ix] == el: ix += 1» -/
theorem inner {xs ix el : Str} {p1 p2 p3 p4 p5 p6 p7 p8 p9 : Pos} {k : Nat} {i : Nat} {ti : Tok} {ve : Value} {x0 : α} {Q : Flow → Shared → Prop}
    (Z : Sq prog w S h₀ Rep V X) (hq : EqOk prog w S h₀ Rep eq) (hS : S = outer.filterMap (·.frame)) (hu : A.units < 8000)
    (hfr : A.frames = some (envOf name scope L a cd :: outer)) (B0 : h₀.FunFrames base outer) (hn : h₀.get? L = none)
    (kp : Kp S h₀ s.heap) (F : Fr base L s.heap m) (hd : Hd A s.heap)
    (mx : m xs = some V) (mi : m ix = some (.int i ti)) (me : m el = some ve) (rx : Rep ve x0) (hi : i ≤ X.length)
    (hQ : ∀ s' m' i' ti', Fr base L s'.heap m' → ExL L s s' → (∀ y, y ≠ ix → m' y = m y) → m' ix = some (.int (i' : Nat) ti') → i ≤ i' → i' < X.length →
      X.drop i' = (X.drop i).dropWhile (fun x => eq x x0) → Q .next s')
    (hE : ∀ sm s' m' ti' e c, Fr base L sm.heap m' → ExL L s sm → (∀ y, y ≠ ix → m' y = m y) → m' ix = some (.int (X.length : Nat) ti') →
      [] = (X.drop i).dropWhile (fun x => eq x x0) → Fly sm.heap.get? (L :: S) e "IndexError" true c s'.heap → s'.heap.FunFrames base (envOf name scope L a cd :: outer) → s'.os = sm.os → s'.gens = sm.gens → (A.handled = none → c = .none) → E (.ref e) s')
    (nxi : xs ≠ ix) (nei : el ≠ ix)
    (hk : scope.kind = .function := by rfl) (kx : (envOf name scope L a cd).kindOf xs = some .local := by rfl) (ki : (envOf name scope L a cd).kindOf ix = some .local := by rfl) (ke : (envOf name scope L a cd).kindOf el = some .local := by rfl)
    (dx : (xs == ("__debug__" : Str)) = false := by decide) (di : (ix == ("__debug__" : Str)) = false := by decide) (de : (el == ("__debug__" : Str)) = false := by decide) :
    wpAny (model prog w) A (exec (.While (.Compare (.Subscript (.Name xs p1) (.Name ix p2) p3) [.Eq] [.Name el p4] p5) [.AugAssign (.Name ix p6) .Add (.Constant (.int 1) k p7) p8] [] p9) (envOf name scope L a cd)) Q E s := by
  subst hS
  refine wpAny_While (codeAny_whileLoop (fun n s₁ => ∃ m₁ i₁ t₁, Fr base L s₁.heap m₁ ∧ ExL L s s₁ ∧ (∀ y, y ≠ ix → m₁ y = m y) ∧ m₁ ix = some (.int (i₁ : Nat) t₁) ∧ i ≤ i₁ ∧ i₁ ≤ X.length ∧
      (X.drop i₁).dropWhile (fun x => eq x x0) = (X.drop i).dropWhile (fun x => eq x x0) ∧ n = X.length - i₁) ?_ (X.length - i) ⟨m, i, ti, F, .refl _ _, fun _ _ => rfl, mi, Nat.le_refl _, hi, rfl, rfl⟩)
  rintro n s₁ ⟨m₁, i₁, t₁, F₁, g₁, em, e1, l1, l2, dw, rfl⟩
  have kp₁ := kpExL kp g₁ hn
  have hd₁ := hdExL hd g₁ (frDict F)
  have lx := Z.len
  refine wpAny_isTrue_Compare1 (Subscript_ (ld F₁ ((em xs nxi).trans mx) (ld F₁ e1 ?_ hk ki di) hk kx dx)) (by with_unfolding_all rfl)
  by_cases hlt : i₁ < X.length
  · refine Z.get kp₁ hlt fun v s₂ g₂ rv => ?_
    have F₂ := frGrow F₁ g₂
    refine ld F₂ ((em el nei).trans me) ?_ hk ke de
    refine hq (kpGrow kp₁ g₂) (by omega) rv rx fun s₃ g₃ => wpAny_truthy_bool ?_
    have F₃ := frGrow F₂ g₃
    have g13 := g₁.trans (g₂.trans g₃).exL
    have dc : X.drop i₁ = X[i₁] :: X.drop (i₁ + 1) := List.drop_eq_getElem_cons hlt
    cases hb : eq X[i₁] x0 with
    | false =>
      rw [if_neg (by decide)]
      refine wpAny_execs_nil (hQ _ m₁ i₁ t₁ F₃ g13 em e1 l1 hlt ?_)
      rw [← dw, dc, List.dropWhile_cons, if_neg (by rw [hb]; decide)]
    | true =>
      rw [if_pos rfl]
      refine wpAny_execs_cons (wpAny_AugAssign_Name (ldn F₃ e1 (wpAny_Constant_int (AutoIntOps.iadd_0 ?_)) hk ki))
      refine st_ (s := _) (frGrow (frGrow F₃ (Grow.toks _ _)) (Grow.toks _ _)) (fun s₄ F₄ g₄ => ?_) hk ki
      refine wpAny_execs_nil ⟨X.length - (i₁ + 1), by omega, _, i₁ + 1, _, F₄, ?_, fun y hy => upd_ne hy (em y hy), upd_same, by omega, by omega, ?_, rfl⟩
      · exact g13.trans ⟨fun b o n e => g₄.keep b o n e, g₄.os, g₄.gens⟩
      · rw [← dw, dc, List.dropWhile_cons, if_pos hb]
  · have he : i₁ = X.length := by omega
    subst he
    refine Z.out (S' := L :: outer.filterMap (·.frame)) kp₁ hd₁ (Nat.le_refl _) (by omega) fun h' tk e c fl hc => ?_
    have FFm := mkFramesX (name := name) (a := a) (cd := cd) B0 kp₁ F₁ fl.kp hn hk
    refine noted_ (hm := s₁.heap.get?) (L := L) hfr FFm rfl fl fun h₂ fl₂ FF₂ => ?_
    refine came_ fl₂ FF₂ fun h₃ fl₃ FF₃ => ?_
    refine hE s₁ _ m₁ t₁ e c F₁ g₁ em e1 ?_ fl₃ FF₃ rfl rfl hc
    rw [← dw]; simp
end

open PySem PySem.W PyProof.Rows PySem.Calls

theorem dropWhile_len {α : Type} (p : α → Bool) : ∀ l : List α, (l.dropWhile p).length ≤ l.length
  | [] => Nat.le_refl _
  | x :: l => by
    rw [List.dropWhile_cons]
    split
    · exact Nat.le_trans (dropWhile_len p l) (Nat.le_succ _)
    · exact Nat.le_refl _

/-- what sorted_list_difference reckons -/
def sld {α : Type} (lt : α → α → Option Bool) (gt eq : α → α → Bool) (xs ys : List α) : Option (List α × List α) :=
  match xs, ys with
  | [], ys => some ([], ys)
  | x :: xs, [] => some (x :: xs, [])
  | x :: xs, y :: ys =>
    match lt x y with
    | none => none
    | some true => (sld lt gt eq (xs.dropWhile fun z => eq z x) (y :: ys)).map fun r => (x :: r.1, r.2)
    | some false =>
      if gt x y then (sld lt gt eq (x :: xs) (ys.dropWhile fun z => eq z y)).map fun r => (r.1, y :: r.2)
      else sld lt gt eq (xs.dropWhile fun z => eq z x) (ys.dropWhile fun z => eq z y)
termination_by xs.length + ys.length
decreasing_by
  · have := dropWhile_len (fun z => eq z x) xs; simp only [List.length_cons]; omega
  · have := dropWhile_len (fun z => eq z y) ys; simp only [List.length_cons]; omega
  · have := dropWhile_len (fun z => eq z x) xs; have := dropWhile_len (fun z => eq z y) ys; simp only [List.length_cons]; omega

section
variable {α : Type} {lt : α → α → Option Bool} {gt eq : α → α → Bool}
theorem sld_nil (ys : List α) : sld lt gt eq [] ys = some ([], ys) := by rw [sld]
theorem sld_nil' (xs : List α) : sld lt gt eq xs [] = some (xs, []) := by cases xs <;> rw [sld]
theorem sld_cons (x y : α) (xs ys : List α) : sld lt gt eq (x :: xs) (y :: ys) = match lt x y with
    | none => none
    | some true => (sld lt gt eq (xs.dropWhile fun z => eq z x) (y :: ys)).map fun r => (x :: r.1, r.2)
    | some false =>
      if gt x y then (sld lt gt eq (x :: xs) (ys.dropWhile fun z => eq z y)).map fun r => (r.1, y :: r.2)
      else sld lt gt eq (xs.dropWhile fun z => eq z x) (ys.dropWhile fun z => eq z y) := by rw [sld]
end

/-- the comparisons of two items -/
def LtOk (prog : Program) (w : World) {α : Type} (S : List Addr) (h₀ : Heap) (Rep : Value → α → Prop) (lt : α → α → Option Bool) : Prop :=
  ∀ {A : Around} {E : Value → Shared → Prop} {s : Shared} {Q : Value → Shared → Prop} {v u : Value} {x y : α}, Kp S h₀ s.heap → A.units < 9000 → A.handled = none → Rep v x → Rep u y →
    (∀ b, lt x y = some b → ∀ s', Grow s s' → Q (.bool b) s') → (lt x y = none → ∀ h' tk e, Heap.NewExc s.heap h' e "TypeError" → E (.ref e) { s with heap := h', toks := tk }) →
    wpAny (model prog w) A (compareOp .Lt v u) Q E s
def GtOk (prog : Program) (w : World) {α : Type} (S : List Addr) (h₀ : Heap) (Rep : Value → α → Prop) (lt : α → α → Option Bool) (gt : α → α → Bool) : Prop :=
  ∀ {A : Around} {E : Value → Shared → Prop} {s : Shared} {Q : Value → Shared → Prop} {v u : Value} {x y : α}, Kp S h₀ s.heap → A.units < 9000 → A.handled = none → Rep v x → Rep u y → lt x y = some false →
    (∀ s', Grow s s' → Q (.bool (gt x y)) s') → wpAny (model prog w) A (compareOp .Gt v u) Q E s

/-- a name that the builtins hold; one that the module holds -/
def Bn (base : Heap) (x : Str) (v : Value) : Prop := ∃ mg mb, base.Ns mainGlobals mg ∧ mg x = none ∧ base.Ns builtinsNs mb ∧ mb x = some v
def Gn (base : Heap) (x : Str) (v : Value) : Prop := ∃ mg, base.Ns mainGlobals mg ∧ mg x = some v

theorem frExL {base : Heap} {L D : Addr} {s s' : Shared} {m : Str → Option Value} (F : Fr base L s.heap m) (g : ExL D s s') (hL : L ≠ D) (hb : base.get? D = none) : Fr base L s'.heap m := by
  obtain ⟨o, es, ep, ho, r⟩ := F.ns
  exact ⟨⟨o, es, ep, g.keep _ _ hL ho, r⟩, fun b o e => g.keep _ _ (fun q => by rw [q, hb] at e; cases e) (F.keep b o e), F.above⟩

section
variable {prog : Program} {w : World} {A : Around} {E : Value → Shared → Prop} {s : Shared} {name : Str} {scope : Scope} {L a : Addr} {cd : Value} {base : Heap} {m : Str → Option Value}

theorem nameB {x : Str} {v : Value} {pos : Pos} {Q : Value → Shared → Prop} (F : Fr base L s.heap m) (B : Bn base x v) (h : Q v s)
    (hk : scope.kind = .function := by rfl) (hx : (envOf name scope L a cd).kindOf x = some .globalImplicit := by rfl) (hd : (x == ("__debug__" : Str)) = false := by decide) :
    wpAny (model prog w) A (eval (.Name x pos) (envOf name scope L a cd)) Q E s :=
  let ⟨_, _, g, n, b, v'⟩ := B; ld_builtin_at F g n b v' h hk hx hd
theorem nameG {x : Str} {v : Value} {pos : Pos} {Q : Value → Shared → Prop} (F : Fr base L s.heap m) (B : Gn base x v) (h : Q v s)
    (hk : scope.kind = .function := by rfl) (hx : (envOf name scope L a cd).kindOf x = some .globalImplicit := by rfl) (hd : (x == ("__debug__" : Str)) = false := by decide) :
    wpAny (model prog w) A (eval (.Name x pos) (envOf name scope L a cd)) Q E s :=
  let ⟨_, g, v'⟩ := B; ld_global_at F g v' h hk hx hd

/-- «xs.append(e)» as a statement -/
theorem append_ {on : Str} {e : Expr} {pl : Sem Bool} {p p1 p2 p3 : Pos} {D : Addr} {ms : List Value} {n : Nat} {Q : Flow → Shared → Prop} (F : Fr base L s.heap m) (mo : m on = some (.ref D)) (hD : s.heap.get? D = some (listOf ms.toArray n))
    (hsz : ms.length < 1000000)
    (he : wpAny (model prog w) A (eval e (envOf name scope L a cd)) (fun v s₁ => Grow s s₁ ∧ ∀ s', ExL D s₁ s' → s'.heap.get? D = some (listOf (ms ++ [v]).toArray (n + 1)) → Q .next s') E s)
    (hc : eval (.Call (.Attribute (.Name on p) "append" p1) [e] [] p2) (envOf name scope L a cd) = (do
      let ov ← eval (.Name on p) (envOf name scope L a cd)
      standAt p1.atName
      let (f, first) ← holding [ov] (getMethod ov "append" pl)
      callWith p2 f first (backTo p2 (starEach [e] (envOf name scope L a cd))) []) := by rfl)
    (hs : starEach [e] (envOf name scope L a cd) = [(false, eval e (envOf name scope L a cd))] := by rfl)
    (hk : scope.kind = .function := by rfl) (hl : (envOf name scope L a cd).kindOf on = some .local := by rfl) (hd : (on == ("__debug__" : Str)) = false := by decide) (hi : interactive (envOf name scope L a cd) = false := by rfl) :
    wpAny (model prog w) A (exec (.Expr (.Call (.Attribute (.Name on p) "append" p1) [e] [] p2) p3) (envOf name scope L a cd)) Q E s := by
  refine wpAny_Expr_any (MethodCall_ (ld F mo ?_ hk hl hd) hc) hi rfl
  refine getMethod_builtin ⟨_, hD, rfl⟩ PySem.F.plainAttrs_list slot_list_append PySem.F.type_list_append (fun x q => by cases q; exact ⟨_, hD, rfl⟩) ?_
  refine callWith_method1 (spliced_more (wpAny_mono he (fun v s₁ ⟨g, h⟩ => spliced_none ?_) fun _ _ x => x) hs) hs rfl
  refine append_at (g.keep _ _ hD) (fun h' sb hD' => h _ ⟨fun b o n q => (sb.2 b n).trans q, rfl, rfl⟩ ?_) ?_
  · have q : ms.toArray.push v = (ms ++ [v]).toArray := by simp
    rw [q] at hD'; exact hD'
  · rw [List.size_toArray, sizeLine_eq]; omega

/-- «xs.extend(V[ix:])» as a statement -/
theorem extendCut {α : Type} {S : List Addr} {h₀ : Heap} {Rep : Value → α → Prop} {V : Value} {X : List α} {on xs ix : Str} {pl : Sem Bool} {p p1 p2 p3 q1 q2 q3 q4 : Pos} {D : Addr} {ms : List Value} {n i : Nat} {ti : Tok} {Q : Flow → Shared → Prop}
    (Z : Sq prog w S h₀ Rep V X) (kp : Kp S h₀ s.heap) (hu : A.units < 9000) (F : Fr base L s.heap m) (mo : m on = some (.ref D)) (hD : s.heap.get? D = some (listOf ms.toArray n)) (hsz : ms.length < 100000) (nD : h₀.get? D = none)
    (mx : m xs = some V) (mi : m ix = some (.int (i : Nat) ti)) (hi' : i ≤ X.length)
    (h : ∀ s' vs n', ExL D s s' → s'.heap.get? D = some (listOf (ms ++ vs).toArray n') → All2 Rep vs (X.drop i) → Q .next s')
    (hc : eval (.Call (.Attribute (.Name on p) "extend" p1) [.Subscript (.Name xs q1) (.Slice (some (.Name ix q2)) none none q3) q4] [] p2) (envOf name scope L a cd) = (do
      let ov ← eval (.Name on p) (envOf name scope L a cd)
      standAt p1.atName
      let (f, first) ← holding [ov] (getMethod ov "extend" pl)
      callWith p2 f first (backTo p2 (starEach [.Subscript (.Name xs q1) (.Slice (some (.Name ix q2)) none none q3) q4] (envOf name scope L a cd))) []) := by rfl)
    (hk : scope.kind = .function := by rfl) (hl : (envOf name scope L a cd).kindOf on = some .local := by rfl) (hd : (on == ("__debug__" : Str)) = false := by decide) (hi : interactive (envOf name scope L a cd) = false := by rfl)
    (kx : (envOf name scope L a cd).kindOf xs = some .local := by rfl) (ki : (envOf name scope L a cd).kindOf ix = some .local := by rfl)
    (dx : (xs == ("__debug__" : Str)) = false := by decide) (di : (ix == ("__debug__" : Str)) = false := by decide) :
    wpAny (model prog w) A (exec (.Expr (.Call (.Attribute (.Name on p) "extend" p1) [.Subscript (.Name xs q1) (.Slice (some (.Name ix q2)) none none q3) q4] [] p2) p3) (envOf name scope L a cd)) Q E s := by
  refine wpAny_Expr_any (MethodCall_ (ld F mo ?_ hk hl hd) hc) hi rfl
  refine getMethod_builtin ⟨_, hD, rfl⟩ PySem.F.plainAttrs_list PySem.F.slot_list_extend PySem.F.type_list_extend (fun x q => by cases q; exact ⟨_, hD, rfl⟩) ?_
  refine callWith_method1 (spliced_more (Subscript_ (ld F mx (wpAny_Slice ?_) hk kx dx)) rfl) rfl rfl
  rw [evalPart_some, evalPart_none]
  refine ld F mi (wpAny_pure (wpAny_pure ?_)) hk ki di
  have g : Grow s { s with heap := s.heap.push { cls := .type "slice", data := .fields #[.int (i : Nat) ti, .none, .none] } } := ⟨fun _ _ e => Heap.get?_push_of_some _ e, rfl, rfl⟩
  refine wpAny_mono (Z.cut (E := E) (aM := D) (kpGrow kp g) hu (Heap.IsSliceOf.new ..) hi' (g.keep _ _ hD) hsz nD (Q := fun _ s' => Q .next s') fun s' vs n' g' hD' av => h s' vs n' ((g.exL).trans g') hD' av) (fun W s₁ hW => spliced_none ?_) fun _ _ x => x
  exact hW
end

open PySem PySem.W PyProof.Rows PySem.Calls

def stmtAt (p : Program) (i : Nat) : Stmt := p.main.body.getD i (.Pass ⟨0, 0, 0, 0⟩)
def bodyOf : Stmt → List Stmt
  | .FunctionDef _ _ b _ _ _ _ _ _ _ => b
  | .While _ b _ _ => b
  | .Try b _ _ _ _ => b
  | .For _ _ b _ _ => b
  | _ => []
def scopeOf : Stmt → Scope
  | .FunctionDef _ _ _ _ _ _ sc _ _ _ => sc
  | _ => default
def paramsOf : Stmt → Arguments
  | .FunctionDef _ ps _ _ _ _ _ _ _ _ => ps
  | _ => default
def handlersOf : Stmt → List ExceptHandler
  | .Try _ hs _ _ _ => hs
  | _ => []
def nth (l : List Stmt) (i : Nat) : Stmt := l.getD i (.Pass ⟨0, 0, 0, 0⟩)
def sldBody : List Stmt := bodyOf (stmtAt PySem.Challenge.pw_dn0234_05 1)
def sldScope : Scope := scopeOf (stmtAt PySem.Challenge.pw_dn0234_05 1)
def sldTry : Stmt := nth (bodyOf (nth sldBody 3)) 0
abbrev sldEnv (L f : Addr) (cd : Value) : Env := envOf "sorted_list_difference" sldScope L f cd

/-- what the call has made and what stands -/
structure Co (S : List Addr) (h₀ : Heap) (s₀ : Shared) (aM aU : Addr) (s : Shared) (ms us : List Value) : Prop where
  kp : Kp S h₀ s.heap
  M : ∃ n, s.heap.get? aM = some (listOf ms.toArray n)
  U : ∃ n, s.heap.get? aU = some (listOf us.toArray n)
  os : s.os = s₀.os
  gens : s.gens = s₀.gens

section
variable {S : List Addr} {h₀ : Heap} {s₀ s s' : Shared} {L aM aU : Addr} {ms us : List Value}
theorem Co.exL (c : Co S h₀ s₀ aM aU s ms us) (g : ExL L s s') (hn : h₀.get? L = none) (hM : aM ≠ L) (hU : aU ≠ L) : Co S h₀ s₀ aM aU s' ms us :=
  ⟨kpExL c.kp g hn, c.M.imp fun _ q => g.keep _ _ hM q, c.U.imp fun _ q => g.keep _ _ hU q, g.os.trans c.os, g.gens.trans c.gens⟩
theorem Co.grow (c : Co S h₀ s₀ aM aU s ms us) (g : Grow s s') : Co S h₀ s₀ aM aU s' ms us :=
  ⟨kpGrow c.kp g, c.M.imp fun _ q => g.keep _ _ q, c.U.imp fun _ q => g.keep _ _ q, g.os.trans c.os, g.gens.trans c.gens⟩
theorem Co.fly (c : Co S h₀ s₀ aM aU s ms us) (k : Kp (L :: S) s.heap s'.heap) (os : s'.os = s.os) (gens : s'.gens = s.gens) (hn : h₀.get? L = none) (hM : aM ∉ L :: S) (hU : aU ∉ L :: S) : Co S h₀ s₀ aM aU s' ms us :=
  ⟨kpDrop c.kp k hn, c.M.imp fun _ q => k.keep _ _ q hM, c.U.imp fun _ q => k.keep _ _ q hU, os.trans c.os, gens.trans c.gens⟩
theorem Co.setM {ms' : List Value} {n : Nat} (c : Co S h₀ s₀ aM aU s ms us) (g : ExL aM s s') (hq : s'.heap.get? aM = some (listOf ms'.toArray n)) (hn : h₀.get? aM = none) (hU : aU ≠ aM) : Co S h₀ s₀ aM aU s' ms' us :=
  ⟨kpExL c.kp g hn, ⟨n, hq⟩, c.U.imp fun _ q => g.keep _ _ hU q, g.os.trans c.os, g.gens.trans c.gens⟩
theorem Co.setU {us' : List Value} {n : Nat} (c : Co S h₀ s₀ aM aU s ms us) (g : ExL aU s s') (hq : s'.heap.get? aU = some (listOf us'.toArray n)) (hn : h₀.get? aU = none) (hM : aM ≠ aU) : Co S h₀ s₀ aM aU s' ms us' :=
  ⟨kpExL c.kp g hn, c.M.imp fun _ q => g.keep _ _ hM q, ⟨n, hq⟩, g.os.trans c.os, g.gens.trans c.gens⟩
end

/-- the six names that the loop turns on -/
structure Lk (V1 V2 : Value) (aM aU : Addr) (m : Str → Option Value) (i j : Nat) (ti tj : Tok) : Prop where
  x : m "expected" = some V1
  y : m "actual" = some V2
  M : m "missing" = some (.ref aM)
  U : m "unexpected" = some (.ref aU)
  i : m "i" = some (.int (i : Nat) ti)
  j : m "j" = some (.int (j : Nat) tj)

section
variable {V1 V2 : Value} {aM aU : Addr} {m m' : Str → Option Value} {i j i' j' : Nat} {ti tj ti' tj' : Tok}
theorem Lk.setI (k : Lk V1 V2 aM aU m i j ti tj) (h : ∀ y, y ≠ ("i" : Str) → m' y = m y) (hi : m' "i" = some (.int (i' : Nat) ti')) : Lk V1 V2 aM aU m' i' j ti' tj :=
  ⟨(h _ (by decide)).trans k.x, (h _ (by decide)).trans k.y, (h _ (by decide)).trans k.M, (h _ (by decide)).trans k.U, hi, (h _ (by decide)).trans k.j⟩
theorem Lk.setJ (k : Lk V1 V2 aM aU m i j ti tj) (h : ∀ y, y ≠ ("j" : Str) → m' y = m y) (hj : m' "j" = some (.int (j' : Nat) tj')) : Lk V1 V2 aM aU m' i j' ti tj' :=
  ⟨(h _ (by decide)).trans k.x, (h _ (by decide)).trans k.y, (h _ (by decide)).trans k.M, (h _ (by decide)).trans k.U, (h _ (by decide)).trans k.i, hj⟩
theorem Lk.setE (k : Lk V1 V2 aM aU m i j ti tj) (v : Value) : Lk V1 V2 aM aU (upd m "e" v) i j ti tj :=
  ⟨upd_ne (by decide) k.x, upd_ne (by decide) k.y, upd_ne (by decide) k.M, upd_ne (by decide) k.U, upd_ne (by decide) k.i, upd_ne (by decide) k.j⟩
theorem Lk.setA (k : Lk V1 V2 aM aU m i j ti tj) (v : Value) : Lk V1 V2 aM aU (upd m "a" v) i j ti tj :=
  ⟨upd_ne (by decide) k.x, upd_ne (by decide) k.y, upd_ne (by decide) k.M, upd_ne (by decide) k.U, upd_ne (by decide) k.i, upd_ne (by decide) k.j⟩
end

/-- where the reckoning stands -/
def Ma {α : Type} (Rep : Value → α → Prop) (lt : α → α → Option Bool) (gt eq : α → α → Bool) (X Y : List α) (i j : Nat) (ms us : List Value) : Prop :=
  ∃ am au, All2 Rep ms am ∧ All2 Rep us au ∧ am.length ≤ i ∧ au.length ≤ j ∧ sld lt gt eq X Y = (sld lt gt eq (X.drop i) (Y.drop j)).map fun r => (am ++ r.1, au ++ r.2)
def Fi {α : Type} (Rep : Value → α → Prop) (lt : α → α → Option Bool) (gt eq : α → α → Bool) (X Y : List α) (ms us : List Value) : Prop :=
  ∃ r, sld lt gt eq X Y = some r ∧ All2 Rep ms r.1 ∧ All2 Rep us r.2

section
variable {α : Type} {Rep : Value → α → Prop} {lt : α → α → Option Bool} {gt eq : α → α → Bool} {X Y : List α} {i j : Nat} {ms us vs ws : List Value}
theorem Ma.fin (h : Ma Rep lt gt eq X Y i j ms us) (e : i = X.length ∨ j = Y.length) (a : All2 Rep vs (X.drop i)) (b : All2 Rep ws (Y.drop j)) : Fi Rep lt gt eq X Y (ms ++ vs) (us ++ ws) := by
  obtain ⟨am, au, h1, h2, _, _, h3⟩ := h
  refine ⟨(am ++ X.drop i, au ++ Y.drop j), ?_, h1.append a, h2.append b⟩
  rw [h3]
  rcases e with rfl | rfl
  · rw [List.drop_length, sld_nil]; rfl
  · rw [List.drop_length, sld_nil']; rfl
theorem Ma.lenM (h : Ma Rep lt gt eq X Y i j ms us) : ms.length ≤ i := by
  obtain ⟨am, au, h1, _, h2, _⟩ := h; rw [h1.length]; exact h2
theorem Ma.lenU (h : Ma Rep lt gt eq X Y i j ms us) : us.length ≤ j := by
  obtain ⟨am, au, _, h1, _, h2, _⟩ := h; rw [h1.length]; exact h2
end

/-- while hm stands, the frame and the two lists stand -/
def Good (base h₀ : Heap) (S : List Addr) (s₀ : Shared) (L aM aU : Addr) (m : Str → Option Value) (ms us : List Value) (hm : Addr → Option Obj) : Prop :=
  ∀ s' : Shared, (∀ b o, hm b = some o → b ∉ L :: S → s'.heap.get? b = some o) → (∀ b o, hm b = some o → ∃ sl, s'.heap.get? b = some { o with slots := sl }) → s'.os = s₀.os → s'.gens = s₀.gens →
    Fr base L s'.heap m ∧ Co S h₀ s₀ aM aU s' ms us

/-- what is apart from what -/
structure Ap (base h₀ : Heap) (outer : List Env) (L aM aU : Addr) : Prop where
  B0 : h₀.FunFrames base outer
  hb : base.StaysIn h₀
  nL : h₀.get? L = none
  nM : h₀.get? aM = none
  nU : h₀.get? aU = none
  ML : aM ≠ L
  UL : aU ≠ L
  MU : aM ≠ aU

section
variable {base h₀ : Heap} {outer : List Env} {L aM aU : Addr}
theorem Ap.inS (P : Ap base h₀ outer L aM aU) : ∀ b ∈ outer.filterMap (·.frame), h₀.get? b ≠ none := fun b hb' q => by
  obtain ⟨_, o, ho, _⟩ := P.B0.mem hb'
  rw [ho] at q; cases q
theorem Ap.eM (P : Ap base h₀ outer L aM aU) : aM ∉ L :: outer.filterMap (·.frame) := fun q => by
  rcases List.mem_cons.mp q with q | q
  · exact P.ML q
  · exact P.inS _ q P.nM
theorem Ap.eU (P : Ap base h₀ outer L aM aU) : aU ∉ L :: outer.filterMap (·.frame) := fun q => by
  rcases List.mem_cons.mp q with q | q
  · exact P.UL q
  · exact P.inS _ q P.nU
theorem Ap.bn (P : Ap base h₀ outer L aM aU) : ∀ a, h₀.get? a = none → base.get? a = none := fun a q => by
  cases q' : base.get? a with
  | none => rfl
  | some o => rw [P.hb a o q'] at q; cases q
theorem Ap.Sb (P : Ap base h₀ outer L aM aU) : ∀ b ∈ outer.filterMap (·.frame), base.get? b = none := fun _ hb' => (P.B0.mem hb').1

theorem Good.of {s₀ sm : Shared} {m : Str → Option Value} {ms us : List Value} (P : Ap base h₀ outer L aM aU) (F : Fr base L sm.heap m) (C : Co (outer.filterMap (·.frame)) h₀ s₀ aM aU sm ms us) :
    Good base h₀ (outer.filterMap (·.frame)) s₀ L aM aU m ms us sm.heap.get? := fun s' k1 k2 os gens =>
  have k : Kp (L :: outer.filterMap (·.frame)) sm.heap s'.heap := ⟨k1, k2⟩
  ⟨frKp F k P.Sb, C.fly k (os.trans C.os.symm) (gens.trans C.gens.symm) P.nL P.eM P.eU⟩

theorem Good.again {s₀ s : Shared} {m : Str → Option Value} {ms us : List Value} {hm : Addr → Option Obj} (P : Ap base h₀ outer L aM aU) (F : Fr base L s.heap m) (C : Co (outer.filterMap (·.frame)) h₀ s₀ aM aU s ms us)
    (h1 : ∀ b o, s.heap.get? b = some o → (h₀.get? b ≠ none ∨ b = L ∨ b = aM ∨ b = aU) → hm b = some o) : Good base h₀ (outer.filterMap (·.frame)) s₀ L aM aU m ms us hm := by
  intro s' k1 k2 os gens
  have kh : ∀ b o, h₀.get? b = some o → b ∉ outer.filterMap (·.frame) → s'.heap.get? b = some o := fun b o e n => k1 b o (h1 b o (C.kp.keep b o e n) (.inl (by rw [e]; exact fun q => by cases q))) fun q => by
    rcases List.mem_cons.mp q with q | q
    · rw [q, P.nL] at e; cases e
    · exact n q
  refine ⟨⟨?_, fun b o e => kh b o (P.hb b o e) fun q => ?_, F.above⟩, ⟨kh, fun b o e => ?_⟩, ?_, ?_, os, gens⟩
  · obtain ⟨o, es, ep, ho, hd, r⟩ := F.ns
    obtain ⟨sl, q⟩ := k2 L o (h1 L o ho (.inr (.inl rfl)))
    exact ⟨_, es, ep, q, hd, r⟩
  · rw [P.Sb b q] at e; cases e
  · obtain ⟨sl, q⟩ := C.kp.slot b o e
    obtain ⟨sl', q'⟩ := k2 b _ (h1 b _ q (.inl (by rw [e]; exact fun q => by cases q)))
    exact ⟨sl', q'⟩
  · exact C.M.imp fun _ q => k1 _ _ (h1 _ _ q (.inr (.inr (.inl rfl)))) P.eM
  · exact C.U.imp fun _ q => k1 _ _ (h1 _ _ q (.inr (.inr (.inr rfl)))) P.eU
end

section
variable {prog : Program} {w : World} {α : Type} {S : List Addr} {base h₀ : Heap} {Rep : Value → α → Prop} {V1 V2 : Value} {X Y : List α} {lt : α → α → Option Bool} {gt eq : α → α → Bool}
  {A : Around} {E : Value → Shared → Prop} {s s₀ : Shared} {L f aM aU : Addr} {cd : Value} {m : Str → Option Value} {outer : List Env}

/-- the handler: what is left of both is told, and the loop is left -/
theorem handler_ {hm : Addr → Option Obj} {i j : Nat} {ti tj : Tok} {ms us : List Value} {e : Addr} {tr : Bool} {c : Value} {Q : Flow → Shared → Prop}
    (Z1 : Sq prog w (outer.filterMap (·.frame)) h₀ Rep V1 X) (Z2 : Sq prog w (outer.filterMap (·.frame)) h₀ Rep V2 Y) (hu : A.units < 8000) (hI : Bn base "IndexError" (.type "IndexError"))
    (hfr : A.frames = some (sldEnv L f cd :: outer)) (P : Ap base h₀ outer L aM aU) (G : Good base h₀ (outer.filterMap (·.frame)) s₀ L aM aU m ms us hm)
    (K : Lk V1 V2 aM aU m i j ti tj) (li : i ≤ X.length) (lj : j ≤ Y.length) (hM : Ma Rep lt gt eq X Y i j ms us) (hend : i = X.length ∨ j = Y.length)
    (X0 : Fly hm (L :: outer.filterMap (·.frame)) e "IndexError" tr c s.heap) (FF : s.heap.FunFrames base (sldEnv L f cd :: outer)) (os : s.os = s₀.os) (gens : s.gens = s₀.gens)
    (hQ : ∀ s' ms' us', Fr base L s'.heap m → Co (outer.filterMap (·.frame)) h₀ s₀ aM aU s' ms' us' → Fi Rep lt gt eq X Y ms' us' → Q .brk s') :
    wpAny (model prog w) A (noteFrame (.ref e) (sldEnv L f cd)) (fun _ s₂ => wpAny (model prog w) A (setFlight (.ref e) none) (fun _ s₃ => wpAny (model prog w) A (handleBy (.ref e) (sldEnv L f cd) (handlersOf sldTry)) Q E s₃) E s₂) E s := by
  refine note_ (base := base) (L := L) hfr FF rfl X0 fun h₁ X1 FF1 => ?_
  refine flight_ (base := base) X1 FF1 fun h₂ X2 FF2 => ?_
  have F2 := (G { s with heap := h₂ } X2.keep X2.slot os gens).1
  refine wpAny_handleBy_builtin (X := "IndexError") (T := "IndexError") (b := true) PySem.F.isExc_IndexError (by with_unfolding_all rfl) PySem.F.self_IndexError ?_
  refine nameB (s := { s with heap := h₂ }) F2 hI ⟨rfl, ?_, ?_⟩
  · obtain ⟨_, _, _, oe, vs, he, hc, _⟩ := X2
    exact ⟨oe, he, hc⟩
  rw [if_pos rfl]
  refine flight_ (base := base) X2 FF2 fun h₃ X3 FF3 => ?_
  obtain ⟨F3, C3⟩ := G { s with heap := h₃ } X3.keep X3.slot os gens
  obtain ⟨nm, gM⟩ := C3.M
  have lM := hM.lenM
  have lU := hM.lenU
  have lX := Z1.len
  have lY := Z2.len
  refine wpAny_execs_cons (extendCut Z1 C3.kp (by show A.units < 9000; omega) F3 K.M gM (by omega) P.nM K.x K.i li fun s₄ vs n₄ g₄ gM₄ av => ?_)
  have C4 := C3.setM g₄ gM₄ P.nM (Ne.symm P.MU)
  have F4 := frExL (s := { s with heap := h₃ }) F3 g₄ (Ne.symm P.ML) (P.bn _ P.nM)
  obtain ⟨nu, gU⟩ := C4.U
  refine wpAny_execs_cons (extendCut Z2 C4.kp (by show A.units < 9000; omega) F4 K.U gU (by omega) P.nU K.y K.j lj fun s₅ ws n₅ g₅ gU₅ aw => ?_)
  have C5 := C4.setU g₅ gU₅ P.nU P.MU
  have F5 := frExL F4 g₅ (Ne.symm P.UL) (P.bn _ P.nU)
  refine wpAny_execs_cons (wpAny_Break ?_)
  exact hQ s₅ _ _ F5 C5 (hM.fin hend av aw)
end
open PySem PySem.W PyProof.Rows PySem.Calls

section
variable {α : Type} {Rep : Value → α → Prop} {lt : α → α → Option Bool} {gt eq : α → α → Bool} {X Y : List α} {i j i' j' : Nat} {ms us : List Value} {v : Value}
theorem Ma.stepNo (h : Ma Rep lt gt eq X Y i j ms us) (hi : i < X.length) (hj : j < Y.length) (hl : lt X[i] Y[j] = none) : sld lt gt eq X Y = none := by
  obtain ⟨am, au, _, _, _, _, h3⟩ := h
  rw [h3, List.drop_eq_getElem_cons hi, List.drop_eq_getElem_cons hj, sld_cons, hl]; rfl
theorem Ma.stepLt (h : Ma Rep lt gt eq X Y i j ms us) (hi : i < X.length) (hj : j < Y.length) (hl : lt X[i] Y[j] = some true) (rv : Rep v X[i]) (hi' : i < i')
    (hd : X.drop i' = (X.drop (i + 1)).dropWhile fun z => eq z X[i]) : Ma Rep lt gt eq X Y i' j (ms ++ [v]) us := by
  obtain ⟨am, au, h1, h2, l1, l2, h3⟩ := h
  refine ⟨am ++ [X[i]], au, h1.append (.cons rv .nil), h2, by simp; omega, l2, ?_⟩
  rw [h3, List.drop_eq_getElem_cons hi, List.drop_eq_getElem_cons hj, sld_cons, hl, hd]
  dsimp only
  rw [Option.map_map]
  congr 1
  funext r
  simp
theorem Ma.stepGt (h : Ma Rep lt gt eq X Y i j ms us) (hi : i < X.length) (hj : j < Y.length) (hl : lt X[i] Y[j] = some false) (hg : gt X[i] Y[j] = true) (rv : Rep v Y[j]) (hj' : j < j')
    (hd : Y.drop j' = (Y.drop (j + 1)).dropWhile fun z => eq z Y[j]) : Ma Rep lt gt eq X Y i j' ms (us ++ [v]) := by
  obtain ⟨am, au, h1, h2, l1, l2, h3⟩ := h
  refine ⟨am, au ++ [Y[j]], h1, h2.append (.cons rv .nil), l1, by simp; omega, ?_⟩
  rw [h3, List.drop_eq_getElem_cons hi, List.drop_eq_getElem_cons hj, sld_cons, hl, hd]
  dsimp only
  rw [if_pos hg, Option.map_map]
  congr 1
  funext r
  simp
theorem Ma.stepEq (h : Ma Rep lt gt eq X Y i j ms us) (hi : i < X.length) (hj : j < Y.length) (hl : lt X[i] Y[j] = some false) (hg : gt X[i] Y[j] = false) (hi' : i < i') (hj' : j < j')
    (hd : X.drop i' = (X.drop (i + 1)).dropWhile fun z => eq z X[i]) (hd' : Y.drop j' = (Y.drop (j + 1)).dropWhile fun z => eq z Y[j]) : Ma Rep lt gt eq X Y i' j' ms us := by
  obtain ⟨am, au, h1, h2, l1, l2, h3⟩ := h
  refine ⟨am, au, h1, h2, by omega, by omega, ?_⟩
  rw [h3, List.drop_eq_getElem_cons hi, List.drop_eq_getElem_cons hj, sld_cons, hl, hd, hd']
  dsimp only
  rw [if_neg (by rw [hg]; decide)]
end

section
variable {prog : Program} {w : World} {α : Type} {base h₀ : Heap} {Rep : Value → α → Prop} {V1 V2 : Value} {X Y : List α} {lt : α → α → Option Bool} {gt eq : α → α → Bool}
  {A : Around} {E : Value → Shared → Prop} {s s₀ : Shared} {L f aM aU : Addr} {cd : Value} {m : Str → Option Value} {outer : List Env}

/-- the loop's state, n turns (at most) ahead of its end -/
def St (base h₀ : Heap) (Rep : Value → α → Prop) (V1 V2 : Value) (X Y : List α) (lt : α → α → Option Bool) (gt eq : α → α → Bool) (s₀ : Shared) (L aM aU : Addr) (outer : List Env) (n : Nat) (s : Shared) : Prop :=
  ∃ m i j ti tj ms us, Fr base L s.heap m ∧ Co (outer.filterMap (·.frame)) h₀ s₀ aM aU s ms us ∧ Lk V1 V2 aM aU m i j ti tj ∧ i ≤ X.length ∧ j ≤ Y.length ∧ Ma Rep lt gt eq X Y i j ms us ∧ (X.length - i) + (Y.length - j) = n
/-- an IndexError is on its way -/
def Ix (base h₀ : Heap) (Rep : Value → α → Prop) (V1 V2 : Value) (X Y : List α) (lt : α → α → Option Bool) (gt eq : α → α → Bool) (s₀ : Shared) (L f aM aU : Addr) (cd : Value) (outer : List Env) (e : Addr) (s : Shared) : Prop :=
  ∃ hm m i j ti tj ms us tr c, Good base h₀ (outer.filterMap (·.frame)) s₀ L aM aU m ms us hm ∧ Lk V1 V2 aM aU m i j ti tj ∧ i ≤ X.length ∧ j ≤ Y.length ∧ Ma Rep lt gt eq X Y i j ms us ∧ (i = X.length ∨ j = Y.length) ∧
    Fly hm (L :: outer.filterMap (·.frame)) e "IndexError" tr c s.heap ∧ s.heap.FunFrames base (sldEnv L f cd :: outer) ∧ s.os = s₀.os ∧ s.gens = s₀.gens
/-- a TypeError is on its way -/
def Tx (base h₀ : Heap) (X Y : List α) (lt : α → α → Option Bool) (gt eq : α → α → Bool) (s₀ : Shared) (L f : Addr) (cd : Value) (outer : List Env) (tr : Bool) (e : Addr) (s : Shared) : Prop :=
  sld lt gt eq X Y = none ∧ ∃ (hm : Heap) (m : Str → Option Value), Fr base L hm m ∧ Kp (outer.filterMap (·.frame)) h₀ hm ∧ Fly hm.get? (L :: outer.filterMap (·.frame)) e "TypeError" tr .none s.heap ∧ s.heap.FunFrames base (sldEnv L f cd :: outer) ∧ s.os = s₀.os ∧ s.gens = s₀.gens

/-- «x += 1» -/
theorem aug1 {name : Str} {scope : Scope} {a : Addr} {x : Str} {p1 p2 p3 : Pos} {k i : Nat} {ti : Tok} {Q : Flow → Shared → Prop} (F : Fr base L s.heap m) (mx : m x = some (.int (i : Nat) ti))
    (h : ∀ s' t, Fr base L s'.heap (upd m x (.int ((i + 1 : Nat) : Int) t)) → ExL L s s' → Q .next s')
    (hk : scope.kind = .function := by rfl) (hl : (envOf name scope L a cd).kindOf x = some .local := by rfl) :
    wpAny (model prog w) A (exec (.AugAssign (.Name x p1) .Add (.Constant (.int 1) k p2) p3) (envOf name scope L a cd)) Q E s := by
  refine wpAny_AugAssign_Name (ldn F mx (wpAny_Constant_int (AutoIntOps.iadd_0 ?_)) hk hl)
  refine st_ (s := _) (frGrow (frGrow F (Grow.toks _ _)) (Grow.toks _ _)) (fun s₇ F₇ g₇ => h s₇ _ F₇ ⟨fun b o n e => g₇.keep b o n e, g₇.os, g₇.gens⟩) hk hl

theorem tryBody_ {n : Nat}
    (Z1 : Sq prog w (outer.filterMap (·.frame)) h₀ Rep V1 X) (Z2 : Sq prog w (outer.filterMap (·.frame)) h₀ Rep V2 Y) (hq : EqOk prog w (outer.filterMap (·.frame)) h₀ Rep eq) (hlt : LtOk prog w (outer.filterMap (·.frame)) h₀ Rep lt) (hgt : GtOk prog w (outer.filterMap (·.frame)) h₀ Rep lt gt)
    (hu : A.units < 8000) (hh : A.handled = none) (hfr : A.frames = some (sldEnv L f cd :: outer)) (P : Ap base h₀ outer L aM aU)
    (h : St base h₀ Rep V1 V2 X Y lt gt eq s₀ L aM aU outer n s) :
    wpAny (model prog w) A (execs (bodyOf sldTry) (sldEnv L f cd)) (fun fl s' => fl = .next ∧ ∃ n', n' < n ∧ St base h₀ Rep V1 V2 X Y lt gt eq s₀ L aM aU outer n' s')
      (fun e s' => ∃ a, e = .ref a ∧ (Ix base h₀ Rep V1 V2 X Y lt gt eq s₀ L f aM aU cd outer a s' ∨ Tx base h₀ X Y lt gt eq s₀ L f cd outer false a s')) s := by
  obtain ⟨m, i, j, ti, tj, ms, us, F, C, K, li, lj, hM, hn⟩ := h
  have lX := Z1.len
  have lY := Z2.len
  have lM := hM.lenM
  have lU := hM.lenU
  -- e = expected[i]
  refine wpAny_execs_cons (wpAny_Assign_Name (Subscript_ (ld F K.x (ld F K.i ?_))))
  rcases Nat.lt_or_eq_of_le li with hi | hi
  case inr =>
    refine Z1.out (S' := L :: outer.filterMap (·.frame)) C.kp (.inl hh) (by omega) (by omega) fun h' tk e c fl hc => ⟨e, rfl, .inl ⟨s.heap.get?, m, i, j, ti, tj, ms, us, false, c, .of P F C, K, li, lj, hM, .inl hi, fl, mkFramesX P.B0 C.kp F fl.kp P.nL, C.os, C.gens⟩⟩
  refine Z1.get C.kp hi fun v s₁ g₁ rv => st_ (frGrow F g₁) fun s₂ F₂ g₂ => ?_
  have C₂ := (C.grow g₁).exL g₂ P.nL P.ML P.UL
  have K₂ := K.setE v
  -- a = actual[j]
  refine wpAny_execs_cons (wpAny_Assign_Name (Subscript_ (ld F₂ K₂.y (ld F₂ K₂.j ?_))))
  rcases Nat.lt_or_eq_of_le lj with hj | hj
  case inr =>
    refine Z2.out (S' := L :: outer.filterMap (·.frame)) C₂.kp (.inl hh) (by omega) (by omega) fun h' tk e c fl hc => ⟨e, rfl, .inl ⟨s₂.heap.get?, _, i, j, ti, tj, ms, us, false, c, .of P F₂ C₂, K₂, li, lj, hM, .inr hj, fl, mkFramesX P.B0 C₂.kp F₂ fl.kp P.nL, C₂.os, C₂.gens⟩⟩
  refine Z2.get C₂.kp hj fun u s₃ g₃ ru => st_ (frGrow F₂ g₃) fun s₄ F₄ g₄ => ?_
  have C₄ := (C₂.grow g₃).exL g₄ P.nL P.ML P.UL
  have K₄ := K₂.setA u
  have me : upd (upd m "e" v) "a" u "e" = some v := upd_ne (by decide) upd_same
  have ma : upd (upd m "e" v) "a" u "a" = some u := upd_same
  generalize hm4 : upd (upd m "e" v) "a" u = m₄ at *
  -- e < a
  refine wpAny_execs_cons (wpAny_If (wpAny_isTrue_Compare1 (ld F₄ me (ld F₄ ma (hlt C₄.kp (by omega) hh rv ru (fun b hb s₅ g₅ => wpAny_truthy_bool ?_) fun hnone h' tk e hx => ?_)))))
  case refine_2 =>
    have fl := Fly.of_new (S := L :: outer.filterMap (·.frame)) hx
    exact ⟨e, rfl, .inr ⟨hM.stepNo hi hj hnone, s₄.heap, m₄, F₄, C₄.kp, fl, mkFramesX P.B0 C₄.kp F₄ fl.kp P.nL, C₄.os, C₄.gens⟩⟩
  have C₅ := C₄.grow g₅
  have F₅ := frGrow F₄ g₅
  cases b with
  | true =>
    rw [if_pos rfl]
    -- missing.append(e)
    obtain ⟨nm, gM⟩ := C₅.M
    refine wpAny_execs_cons (append_ F₅ K₄.M gM (by omega) (ld F₅ me ⟨.refl _, fun s₆ g₆ gM₆ => ?_⟩))
    have C₆ := C₅.setM g₆ gM₆ P.nM (Ne.symm P.MU)
    have F₆ := frExL F₅ g₆ (Ne.symm P.ML) (P.bn _ P.nM)
    -- i += 1
    refine wpAny_execs_cons (aug1 F₆ K₄.i fun s₇ t₇ F₇ g₇ => ?_)
    have C₇ := C₆.exL g₇ P.nL P.ML P.UL
    have K₇ := K₄.setI (m' := upd m₄ "i" (.int ((i + 1 : Nat) : Int) t₇)) (i' := i + 1) (fun y hy => upd_ne hy rfl) upd_same
    -- while expected[i] == e: i += 1
    refine wpAny_execs_cons (inner (x0 := X[i]) Z1 hq rfl hu hfr P.B0 P.nL C₇.kp F₇ (.inl hh) K₇.x K₇.i (upd_ne (by decide) me) rv hi (fun s₈ m₈ i₈ t₈ F₈ g₈ e₈ q₈ l₈ u₈ d₈ => ?_) (fun sm s₈ m₈ t₈ e c F₈ g₈ e₈ q₈ d₈ fl FF os gens hc => ?_) (by decide) (by decide))
    · have C₈ := C₇.exL g₈ P.nL P.ML P.UL
      repeat refine wpAny_execs_nil ?_
      exact ⟨rfl, (X.length - i₈) + (Y.length - j), by omega, m₈, i₈, j, t₈, tj, ms ++ [v], us, F₈, C₈, K₇.setI e₈ q₈, Nat.le_of_lt u₈, lj, hM.stepLt hi hj hb rv (by omega) d₈, rfl⟩
    · have C₈ := C₇.exL g₈ P.nL P.ML P.UL
      exact ⟨e, rfl, .inl ⟨sm.heap.get?, m₈, X.length, j, t₈, tj, ms ++ [v], us, true, c, .of P F₈ C₈, K₇.setI e₈ q₈, Nat.le_refl _, lj, hM.stepLt hi hj hb rv hi (by rw [List.drop_length]; exact d₈), .inl rfl, fl, FF, os.trans C₈.os, gens.trans C₈.gens⟩⟩
  | false =>
    rw [if_neg (by decide)]
    -- e > a
    refine wpAny_execs_cons (wpAny_If (wpAny_isTrue_Compare1 (ld F₅ me (ld F₅ ma (hgt C₅.kp (by omega) hh rv ru hb fun s₆ g₆ => wpAny_truthy_bool ?_)))))
    have C₆ := C₅.grow g₆
    have F₆ := frGrow F₅ g₆
    cases hg : gt X[i] Y[j] with
    | true =>
      rw [if_pos rfl]
      -- unexpected.append(a)
      obtain ⟨nu, gU⟩ := C₆.U
      refine wpAny_execs_cons (append_ F₆ K₄.U gU (by omega) (ld F₆ ma ⟨.refl _, fun s₇ g₇ gU₇ => ?_⟩))
      have C₇ := C₆.setU g₇ gU₇ P.nU P.MU
      have F₇ := frExL F₆ g₇ (Ne.symm P.UL) (P.bn _ P.nU)
      refine wpAny_execs_cons (aug1 F₇ K₄.j fun s₈ t₈ F₈ g₈ => ?_)
      have C₈ := C₇.exL g₈ P.nL P.ML P.UL
      have K₈ := K₄.setJ (m' := upd m₄ "j" (.int ((j + 1 : Nat) : Int) t₈)) (j' := j + 1) (fun y hy => upd_ne hy rfl) upd_same
      refine wpAny_execs_cons (inner (x0 := Y[j]) Z2 hq rfl hu hfr P.B0 P.nL C₈.kp F₈ (.inl hh) K₈.y K₈.j (upd_ne (by decide) ma) ru hj (fun s₉ m₉ j₉ t₉ F₉ g₉ e₉ q₉ l₉ u₉ d₉ => ?_) (fun sm s₉ m₉ t₉ e c F₉ g₉ e₉ q₉ d₉ fl FF os gens hc => ?_) (by decide) (by decide))
      · have C₉ := C₈.exL g₉ P.nL P.ML P.UL
        repeat refine wpAny_execs_nil ?_
        exact ⟨rfl, (X.length - i) + (Y.length - j₉), by omega, m₉, i, j₉, ti, t₉, ms, us ++ [u], F₉, C₉, K₈.setJ e₉ q₉, li, Nat.le_of_lt u₉, hM.stepGt hi hj hb hg ru (by omega) d₉, rfl⟩
      · have C₉ := C₈.exL g₉ P.nL P.ML P.UL
        exact ⟨e, rfl, .inl ⟨sm.heap.get?, m₉, i, Y.length, ti, t₉, ms, us ++ [u], true, c, .of P F₉ C₉, K₈.setJ e₉ q₉, li, Nat.le_refl _, hM.stepGt hi hj hb hg ru hj (by rw [List.drop_length]; exact d₉), .inr rfl, fl, FF, os.trans C₉.os, gens.trans C₉.gens⟩⟩
    | false =>
      rw [if_neg (by decide)]
      -- i += 1
      refine wpAny_execs_cons (aug1 F₆ K₄.i fun s₇ t₇ F₇ g₇ => ?_)
      have C₇ := C₆.exL g₇ P.nL P.ML P.UL
      have K₇ := K₄.setI (m' := upd m₄ "i" (.int ((i + 1 : Nat) : Int) t₇)) (i' := i + 1) (fun y hy => upd_ne hy rfl) upd_same
      have me₇ : upd m₄ "i" (.int ((i + 1 : Nat) : Int) t₇) "e" = some v := upd_ne (by decide) me
      have ma₇ : upd m₄ "i" (.int ((i + 1 : Nat) : Int) t₇) "a" = some u := upd_ne (by decide) ma
      generalize upd m₄ "i" (.int ((i + 1 : Nat) : Int) t₇) = m₇ at *
      refine wpAny_execs_cons (wpAny_Try_finally (wpAny_execs_cons (inner (x0 := X[i]) Z1 hq rfl hu hfr P.B0 P.nL C₇.kp F₇ (.inl hh) K₇.x K₇.i me₇ rv hi (fun s₈ m₈ i₈ t₈ F₈ g₈ e₈ q₈ l₈ u₈ d₈ => ?_) (fun sm s₈ m₈ t₈ e c F₈ g₈ e₈ q₈ d₈ fl FF os gens hc => ?_) (by decide) (by decide))))
      · -- the first run ended
        have C₈ := C₇.exL g₈ P.nL P.ML P.UL
        have K₈ := K₇.setI e₈ q₈
        refine wpAny_execs_nil (wpAny_execs_nil (wpAny_execs_cons (aug1 F₈ K₈.j fun s₉ t₉ F₉ g₉ => ?_)))
        have C₉ := C₈.exL g₉ P.nL P.ML P.UL
        have K₉ := K₈.setJ (m' := upd m₈ "j" (.int ((j + 1 : Nat) : Int) t₉)) (j' := j + 1) (fun y hy => upd_ne hy rfl) upd_same
        refine wpAny_execs_cons (inner (x0 := Y[j]) Z2 hq rfl hu hfr P.B0 P.nL C₉.kp F₉ (.inl hh) K₉.y K₉.j (upd_ne (by decide) ((e₈ _ (by decide)).trans ma₇)) ru hj (fun s₁₀ m₁₀ j₁₀ t₁₀ F₁₀ g₁₀ e₁₀ q₁₀ l₁₀ u₁₀ d₁₀ => ?_) (fun sm s₁₀ m₁₀ t₁₀ e c F₁₀ g₁₀ e₁₀ q₁₀ d₁₀ fl FF os gens hc => ?_) (by decide) (by decide))
        · have C₁₀ := C₉.exL g₁₀ P.nL P.ML P.UL
          repeat refine wpAny_execs_nil ?_
          exact ⟨rfl, (X.length - i₈) + (Y.length - j₁₀), by omega, m₁₀, i₈, j₁₀, t₈, t₁₀, ms, us, F₁₀, C₁₀, K₉.setJ e₁₀ q₁₀, Nat.le_of_lt u₈, Nat.le_of_lt u₁₀, hM.stepEq hi hj hb hg (by omega) (by omega) d₈ d₁₀, rfl⟩
        · have C₁₀ := C₉.exL g₁₀ P.nL P.ML P.UL
          refine noted_ (L := L) hfr FF rfl fl fun h₁ fl₁ FF₁ => came_ fl₁ FF₁ fun h₂ fl₂ FF₂ => ?_
          exact ⟨e, rfl, .inl ⟨sm.heap.get?, m₁₀, i₈, Y.length, t₈, t₁₀, ms, us, true, c, .of P F₁₀ C₁₀, K₉.setJ e₁₀ q₁₀, Nat.le_of_lt u₈, Nat.le_refl _, hM.stepEq hi hj hb hg (by omega) hj d₈ (by rw [List.drop_length]; exact d₁₀), .inr rfl, fl₂, FF₂, os.trans C₁₀.os, gens.trans C₁₀.gens⟩⟩
      · -- the first run ran out
        have C₈ := C₇.exL g₈ P.nL P.ML P.UL
        have K₈ := K₇.setI e₈ q₈
        have hc' := hc hh
        subst hc'
        refine note_ (L := L) hfr FF rfl fl fun h₁ fl₁ FF₁ => ⟨(fun q => by cases q), note_ (L := L) hfr FF₁ rfl fl₁ fun h₂ fl₂ FF₂ => flight_ fl₂ FF₂ fun h₃ fl₃ FF₃ => ?_⟩
        obtain ⟨F₃, C₃⟩ := Good.of P F₈ C₈ { s₈ with heap := h₃ } fl₃.keep fl₃.slot (os.trans C₈.os) (gens.trans C₈.gens)
        refine wpAny_execs_cons (aug1 F₃ K₈.j fun s₉ t₉ F₉ g₉ => ?_)
        have C₉ := C₃.exL g₉ P.nL P.ML P.UL
        have K₉ := K₈.setJ (m' := upd m₈ "j" (.int ((j + 1 : Nat) : Int) t₉)) (j' := j + 1) (fun y hy => upd_ne hy rfl) upd_same
        have hd₉ : Hd (A.mark (some (.ref e))) s₉.heap := by
          refine hdExL (s := { s₈ with heap := h₃ }) (.inr ?_) g₉ (frDict F₃)
          obtain ⟨_, _, _, oe, vs, he, _, hd, _, h2, _⟩ := fl₃
          exact ⟨e, oe, vs, rfl, he, hd, h2⟩
        refine wpAny_execs_cons (inner (x0 := Y[j]) Z2 hq rfl hu hfr P.B0 P.nL C₉.kp F₉ hd₉ K₉.y K₉.j (upd_ne (by decide) ((e₈ _ (by decide)).trans ma₇)) ru hj (fun s₁₀ m₁₀ j₁₀ t₁₀ F₁₀ g₁₀ e₁₀ q₁₀ l₁₀ u₁₀ d₁₀ => ?_) (fun sm' s₁₀ m₁₀ t₁₀ e' c' F₁₀ g₁₀ e₁₀ q₁₀ d₁₀ fl' FF' os' gens' hc' => ?_) (by decide) (by decide))
        · -- the second run ended: the first error goes on
          have C₁₀ := C₉.exL g₁₀ P.nL P.ML P.UL
          have g := g₉.trans g₁₀
          obtain ⟨hm', fl₄, k₄⟩ := fl₃.anew (h' := s₁₀.heap) (frDict F₃) g.keep
          refine wpAny_execs_nil (passOn_ fl₄ (mkFrames (name := "sorted_list_difference") (scope := sldScope) (a := f) (cd := cd) P.B0 C₁₀.kp F₁₀) fun h₅ fl₅ FF₅ => ?_)
          have G : Good base h₀ (outer.filterMap (·.frame)) s₀ L aM aU m₁₀ ms us hm' := by
            refine Good.again P F₁₀ C₁₀ fun b o q w => k₄ b o ?_ q
            rcases w with w | rfl | rfl | rfl
            · intro r
              cases q' : h₀.get? b with
              | none => exact w q'
              | some o' => obtain ⟨sl, q''⟩ := C₈.kp.slot b o' q'; rw [r] at q''; cases q''
            · obtain ⟨o', _, _, q', _⟩ := F₈.ns
              rw [q']; exact fun r => by cases r
            · obtain ⟨_, q'⟩ := C₈.M
              rw [q']; exact fun r => by cases r
            · obtain ⟨_, q'⟩ := C₈.U
              rw [q']; exact fun r => by cases r
          exact ⟨e, rfl, .inl ⟨hm', m₁₀, X.length, j₁₀, t₈, t₁₀, ms, us, true, _, G, K₉.setJ e₁₀ q₁₀, Nat.le_refl _, Nat.le_of_lt u₁₀, hM.stepEq hi hj hb hg hi (by omega) (by rw [List.drop_length]; exact d₈) d₁₀, .inl rfl, fl₅, FF₅, C₁₀.os, C₁₀.gens⟩⟩
        · -- the second one ran out, too
          have C₁₀ := C₉.exL g₁₀ P.nL P.ML P.UL
          refine noted_ (L := L) hfr FF' rfl fl' fun h₁ fl₁ FF₁ => came_ fl₁ FF₁ fun h₂ fl₂ FF₂ => ?_
          exact ⟨e', rfl, .inl ⟨sm'.heap.get?, m₁₀, X.length, Y.length, t₈, t₁₀, ms, us, true, c', .of P F₁₀ C₁₀, K₉.setJ e₁₀ q₁₀, Nat.le_refl _, Nat.le_refl _, hM.stepEq hi hj hb hg hi hj (by rw [List.drop_length]; exact d₈) (by rw [List.drop_length]; exact d₁₀), .inr rfl, fl₂, FF₂, os'.trans C₁₀.os, gens'.trans C₁₀.gens⟩⟩
end
open PySem PySem.W PyProof.Rows PySem.Calls

abbrev tupOf (vs : List Value) : Obj := { cls := .type "tuple", data := .seq vs.toArray }

section
variable {M : Model} {A : Around} {E : Value → Shared → Prop} {s : Shared}
theorem newList_ {vs : List Value} {Q : Value → Shared → Prop} (h : ∀ s' D, Grow s s' → s'.heap.get? D = some (listOf vs.toArray 0) → s.heap.get? D = none → Q (.ref D) s') (hz : vs.length ≤ 10000000 := by simp) : wpAny M A (newList vs) Q E s :=
  wpAny_newObj_type (h _ _ ⟨fun _ _ e => Heap.get?_push_of_some _ e, rfl, rfl⟩ (Heap.get?_push_size _ rfl) (Heap.get?_none_of_le (Nat.le_refl _))) (by show vs.toArray.size ≤ sizeLine; rw [List.size_toArray, sizeLine_eq]; omega)
theorem newTuple_ {vs : List Value} {Q : Value → Shared → Prop} (h : ∀ s' D, Grow s s' → s'.heap.get? D = some (tupOf vs) → s.heap.get? D = none → Q (.ref D) s') (hz : vs.length ≤ 10000000 := by simp) : wpAny M A (newTuple vs) Q E s :=
  wpAny_newObj_type (h _ _ ⟨fun _ _ e => Heap.get?_push_of_some _ e, rfl, rfl⟩ (Heap.get?_push_size _ rfl) (Heap.get?_none_of_le (Nat.le_refl _))) (by show vs.toArray.size ≤ sizeLine; rw [List.size_toArray, sizeLine_eq]; omega)
end

theorem type_not_index : isSubtype (.type "TypeError") (.type "IndexError") = pure false := by rw [isSubtype_type]; kernel_rfl

section
variable {prog : Program} {w : World} {α : Type} {base h₀ : Heap} {Rep : Value → α → Prop} {V1 V2 : Value} {X Y : List α} {lt : α → α → Option Bool} {gt eq : α → α → Bool}
  {A : Around} {E : Value → Shared → Prop} {s s₀ : Shared} {L f aM aU : Addr} {cd : Value} {m : Str → Option Value} {outer : List Env}

theorem sld_loop {Q : Flow → Shared → Prop} {n : Nat}
    (Z1 : Sq prog w (outer.filterMap (·.frame)) h₀ Rep V1 X) (Z2 : Sq prog w (outer.filterMap (·.frame)) h₀ Rep V2 Y) (hq : EqOk prog w (outer.filterMap (·.frame)) h₀ Rep eq) (hlt : LtOk prog w (outer.filterMap (·.frame)) h₀ Rep lt) (hgt : GtOk prog w (outer.filterMap (·.frame)) h₀ Rep lt gt)
    (hu : A.units < 8000) (hh : A.handled = none) (hfr : A.frames = some (sldEnv L f cd :: outer)) (P : Ap base h₀ outer L aM aU) (hI : Bn base "IndexError" (.type "IndexError"))
    (h : St base h₀ Rep V1 V2 X Y lt gt eq s₀ L aM aU outer n s)
    (hQ : ∀ s' m ms us, Fr base L s'.heap m → m "missing" = some (.ref aM) → m "unexpected" = some (.ref aU) → Co (outer.filterMap (·.frame)) h₀ s₀ aM aU s' ms us → Fi Rep lt gt eq X Y ms us → Q .next s')
    (hE : ∀ e s', Tx base h₀ X Y lt gt eq s₀ L f cd outer true e s' → E (.ref e) s') :
    wpAny (model prog w) A (exec (nth sldBody 3) (sldEnv L f cd)) Q E s := by
  refine wpAny_While (codeAny_whileLoop (fun n s => St base h₀ Rep V1 V2 X Y lt gt eq s₀ L aM aU outer n s) ?_ n h)
  intro n s₁ h₁
  refine isTrue_plain (Constant_bool (wpAny_truthy_bool ?_))
  rw [if_pos rfl]
  refine wpAny_execs_cons (wpAny_Try_except (wpAny_mono (tryBody_ (f := f) (cd := cd) Z1 Z2 hq hlt hgt hu hh hfr P h₁) (fun fl s₂ h₂ => ?_) fun e s₂ h₂ => ?_))
  · obtain ⟨rfl, n', l, h₂⟩ := h₂
    repeat refine wpAny_execs_nil ?_
    exact ⟨n', l, h₂⟩
  · obtain ⟨ea, rfl, h₂⟩ := h₂
    rcases h₂ with h₂ | h₂
    · obtain ⟨hm, m, i, j, ti, tj, ms, us, tr, c, G, K, li, lj, hM, he, fl, FF, os, gens⟩ := h₂
      refine handler_ Z1 Z2 hu hI hfr P G K li lj hM he fl FF os gens fun s' ms' us' F' C' hF => ?_
      exact hQ s' m ms' us' F' K.M K.U C' hF
    · obtain ⟨hn, hm, m, F, kp, fl, FF, os, gens⟩ := h₂
      refine note_ (L := L) hfr FF rfl fl fun h₃ fl₃ FF₃ => flight_ fl₃ FF₃ fun h₄ fl₄ FF₄ => ?_
      refine wpAny_handleBy_builtin (X := "TypeError") (T := "IndexError") (b := false) PySem.F.isExc_IndexError (by with_unfolding_all rfl) type_not_index ?_
      refine nameB (s := { s₂ with heap := h₄ }) (frKp F fl₄.kp P.Sb) hI ⟨rfl, ?_, ?_⟩
      · obtain ⟨_, _, _, oe, vs, he, hc, _⟩ := fl₄
        exact ⟨oe, he, hc⟩
      rw [if_neg (by decide)]
      refine wpAny_handleBy_nil (passOn_ fl₄ FF₄ fun h₅ fl₅ FF₅ => noted_ (L := L) hfr FF₅ rfl fl₅ fun h₆ fl₆ FF₆ => came_ fl₆ FF₆ fun h₇ fl₇ FF₇ => ?_)
      exact hE ea _ ⟨hn, hm, m, F, kp, fl₇, FF₇, os, gens⟩

theorem sld_body {Q : Flow → Shared → Prop}
    (Z1 : Sq prog w (outer.filterMap (·.frame)) h₀ Rep V1 X) (Z2 : Sq prog w (outer.filterMap (·.frame)) h₀ Rep V2 Y) (hq : EqOk prog w (outer.filterMap (·.frame)) h₀ Rep eq) (hlt : LtOk prog w (outer.filterMap (·.frame)) h₀ Rep lt) (hgt : GtOk prog w (outer.filterMap (·.frame)) h₀ Rep lt gt)
    (hu : A.units < 8000) (hh : A.handled = none) (hfr : A.frames = some (sldEnv L f cd :: outer)) (B0 : h₀.FunFrames base outer) (hb : base.StaysIn h₀) (nL : h₀.get? L = none) (hI : Bn base "IndexError" (.type "IndexError"))
    (F : Fr base L s.heap m) (kp : Kp (outer.filterMap (·.frame)) h₀ s.heap) (mx : m "expected" = some V1) (my : m "actual" = some V2)
    (hQ : ∀ s' t aM aU ms us n1 n2, Kp (outer.filterMap (·.frame)) h₀ s'.heap → s'.os = s.os → s'.gens = s.gens → s'.heap.get? t = some (tupOf [.ref aM, .ref aU]) → h₀.get? t = none →
      s'.heap.get? aM = some (listOf ms.toArray n1) → s'.heap.get? aU = some (listOf us.toArray n2) → h₀.get? aM = none → h₀.get? aU = none → aM ≠ aU → Fi Rep lt gt eq X Y ms us → Q (.ret (.ref t)) s')
    (hE : ∀ e s', Tx base h₀ X Y lt gt eq s L f cd outer true e s' → E (.ref e) s') :
    wpAny (model prog w) A (execs sldBody (sldEnv L f cd)) Q E s := by
  -- i = j = 0
  refine wpAny_execs_cons (wpAny_Assign_two (wpAny_Constant_int (assign_Name (st_ (s := _) (frGrow F (Grow.toks _ _)) fun s₁ F₁ g₁ => assign_Name (st_ F₁ fun s₂ F₂ g₂ => ?_)))))
  have g02 : ExL L s s₂ := (Grow.toks s (s.toks + 1)).exL.trans (g₁.trans g₂)
  -- missing = []
  refine wpAny_execs_cons (wpAny_Assign_Name (List_ (spliced_none (newList_ fun s₃ aM g₃ gM nM => st_ (frGrow F₂ g₃) fun s₄ F₄ g₄ => ?_))))
  -- unexpected = []
  refine wpAny_execs_cons (wpAny_Assign_Name (List_ (spliced_none (newList_ fun s₅ aU g₅ gU nU => st_ (frGrow F₄ g₅) fun s₆ F₆ g₆ => ?_))))
  have lL : ∀ {s : Shared} {m : Str → Option Value}, Fr base L s.heap m → s.heap.get? L ≠ none := fun F q => by
    obtain ⟨o, _, _, e, _⟩ := F.ns
    rw [e] at q; cases q
  have ML : aM ≠ L := fun q => lL F₂ (q ▸ nM)
  have UL : aU ≠ L := fun q => lL F₄ (q ▸ nU)
  have gM₄ := g₄.keep _ _ ML gM
  have MU : aM ≠ aU := fun q => by rw [q, nU] at gM₄; cases gM₄
  have kp₂ := kpExL kp g02 nL
  have kp₄ := kpExL (kpGrow kp₂ g₃) g₄ nL
  have hn : ∀ {h : Heap} {a : Addr}, Kp (outer.filterMap (·.frame)) h₀ h → h.get? a = none → h₀.get? a = none := fun {h a} k q => by
    cases q' : h₀.get? a with
    | none => rfl
    | some o => obtain ⟨sl, q''⟩ := k.slot _ _ q'; rw [q] at q''; cases q''
  have P : Ap base h₀ outer L aM aU := ⟨B0, hb, nL, hn kp₂ nM, hn kp₄ nU, ML, UL, MU⟩
  have C : Co (outer.filterMap (·.frame)) h₀ s aM aU s₆ [] [] :=
    ⟨kpExL (kpGrow kp₄ g₅) g₆ nL, ⟨0, g₆.keep _ _ ML (g₅.keep _ _ gM₄)⟩, ⟨0, g₆.keep _ _ UL gU⟩, g₆.os.trans (g₅.os.trans (g₄.os.trans (g₃.os.trans g02.os))), g₆.gens.trans (g₅.gens.trans (g₄.gens.trans (g₃.gens.trans g02.gens)))⟩
  refine wpAny_execs_cons (sld_loop (s₀ := s) (aM := aM) (aU := aU) (n := X.length + Y.length) Z1 Z2 hq hlt hgt hu hh hfr P hI ⟨_, 0, 0, s.toks, s.toks, [], [], F₆, C, ⟨?_, ?_, ?_, upd_same, ?_, ?_⟩, Nat.zero_le _, Nat.zero_le _, ⟨[], [], .nil, .nil, Nat.le_refl _, Nat.le_refl _, ?_⟩, rfl⟩ (fun s₇ m₇ ms us F₇ eM eU C₇ fi => ?_) hE)
  · exact upd_ne (by decide) (upd_ne (by decide) (upd_ne (by decide) (upd_ne (by decide) mx)))
  · exact upd_ne (by decide) (upd_ne (by decide) (upd_ne (by decide) (upd_ne (by decide) my)))
  · exact upd_ne (by decide) upd_same
  · exact upd_ne (by decide) (upd_ne (by decide) (upd_ne (by decide) upd_same))
  · exact upd_ne (by decide) (upd_ne (by decide) upd_same)
  · simp
  -- return (missing, unexpected)
  refine wpAny_execs_cons (wpAny_Return_some (Tuple_ (spliced_more (ld F₇ eM (spliced_more (ld F₇ eU (spliced_none (newTuple_ fun s₈ t g₈ gt' nt => ?_))))))))
  obtain ⟨n1, e1⟩ := C₇.M
  obtain ⟨n2, e2⟩ := C₇.U
  exact hQ s₈ t aM aU ms us n1 n2 (kpGrow C₇.kp g₈) (g₈.os.trans C₇.os) (g₈.gens.trans C₇.gens) gt' (hn C₇.kp nt) (g₈.keep _ _ e1) (g₈.keep _ _ e2) P.nM P.nU MU fi
end
open PySem PySem.W PyProof.Rows PySem.Calls

/-- the def st, made by the top, lies at f -/
def Fn (h : Heap) (f : Addr) (name : Str) (st : Stmt) (cd : Value) : Prop :=
  (∃ o doc pm an ct, h.get? f = some o ∧ o.data = .func (fnOf name name (paramsOf st) (bodyOf st) (scopeOf st) .none .none doc pm an cd ct)) ∧ h.CodeRec cd name
theorem Fn.keep {h h' : Heap} {f : Addr} {name : Str} {st : Stmt} {cd : Value} (x : Fn h f name st cd) (k : ∀ b o, h.get? b = some o → h'.get? b = some o) : Fn h' f name st cd :=
  ⟨x.1.imp fun _ ⟨a, b, c, d, e, g⟩ => ⟨a, b, c, d, k _ _ e, g⟩, x.2.keeps k⟩

theorem fn_of_K {K : Frag} {h : Heap} (X : K.In h) {f : Addr} {name : Str} {st : Stmt} {cd doc pm ct oc : Value} {an od : Option Addr} {osl : Array (Option Value)}
    (e : K.lookup f = some ⟨oc, od, .func (fnOf name name (paramsOf st) (bodyOf st) (scopeOf st) .none .none doc pm an cd ct), osl⟩) (ec : codeIn K cd name = true) : Fn h f name st cd :=
  ⟨⟨_, doc, pm, an, ct, X _ _ e, rfl⟩, codeRec_of X ec⟩

section
variable {prog : Program} {w : World} {A : Around} {E : Value → Shared → Prop} {s : Shared} {base : Heap}

theorem callFn {R : Result → Shared → Prop} {st : Stmt} {name : Str} {f : Addr} {cd : Value} {args : List Value} {binds : List (Str × Value)}
    (fn : Fn s.heap f name st cd) (lim : s.heap.NoLimit) (hroom : A.depth < recursionLimit)
    (hbind : ∀ doc pm an ct, bindArgs (fnOf name name (paramsOf st) (bodyOf st) (scopeOf st) .none .none doc pm an cd ct) ⟨args, []⟩ = pure binds)
    (hloc : ∀ x ∈ binds, (scopeOf st).names.lookup x.1 = some .local)
    (h : ∀ s₁, Fr s.heap s.heap.objs.size s₁.heap (fun x => binds.reverse.lookup x) → Grow s s₁ →
      wpAny (model prog w) (A.deeper (envOf name (scopeOf st) s.heap.objs.size f cd)) (execs (bodyOf st) (envOf name (scopeOf st) s.heap.objs.size f cd))
        (fun fl s' => R (.ok (.ret (match fl with | .ret v => v | _ => .none))) s')
        (fun e s' => wpAny (model prog w) (A.deeper (envOf name (scopeOf st) s.heap.objs.size f cd)) (leaving (envOf name (scopeOf st) s.heap.objs.size f cd) e) (fun _ s'' => R (.error e) s'') (fun e' s'' => R (.error e') s'') s') s₁)
    (hcell : ∀ x ∈ (scopeOf st).names, x.2 ≠ .cell) (hco : (scopeOf st).isCoroutine = false := by rfl) (hgen : (scopeOf st).isGenerator = false := by rfl) (hk : (scopeOf st).kind = .function := by rfl) :
    codeAny (model prog w) A (.call (.ref f) ⟨args, []⟩) R s := by
  obtain ⟨⟨o, doc, pm, an, ct, ho, hd⟩, hcd⟩ := fn
  refine codeAny_call_def hroom ho hd lim hcd rfl (.of_eq (hbind doc pm an ct)) hcell hloc (fun h₁ hns hkp => ?_) hco hgen hk
  exact h _ ⟨hns, hkp, Nat.le_refl _⟩ ⟨hkp, rfl, rfl⟩

theorem callName {x name cn : Str} {cs : Scope} {ca L f : Addr} {ccd cd : Value} {st : Stmt} {m : Str → Option Value} {e : Expr} {rest : List Expr} {p pos : Pos} {Q : Value → Shared → Prop}
    (F : Fr base L s.heap m) (G : Gn base x (.ref f)) (fn : Fn base f name st cd)
    (h : wpAny (model prog w) A (spliced (backTo pos (starEach (e :: rest) (envOf cn cs L ca ccd)))) (fun vs s₁ => base.StaysIn s₁.heap ∧
      codeAny (model prog w) A (.call (.ref f) ⟨vs, []⟩) (fun r s' => match r with | .ok (.ret v) => Q v s' | .ok _ => False | .error e => E e s') s₁) E s)
    (he : starEach (e :: rest) (envOf cn cs L ca ccd) = (false, eval e (envOf cn cs L ca ccd)) :: starEach rest (envOf cn cs L ca ccd) := by rfl)
    (hc : eval (.Call (.Name x p) (e :: rest) [] pos) (envOf cn cs L ca ccd) = (do callWith pos (← eval (.Name x p) (envOf cn cs L ca ccd)) [] (backTo pos (starEach (e :: rest) (envOf cn cs L ca ccd))) (backToKw pos (keywordEach [] (envOf cn cs L ca ccd)))) := by rfl)
    (hk : cs.kind = .function := by rfl) (hx : (envOf cn cs L ca ccd).kindOf x = some .globalImplicit := by rfl) (hd : (x == ("__debug__" : Str)) = false := by decide) :
    wpAny (model prog w) A (eval (.Call (.Name x p) (e :: rest) [] pos) (envOf cn cs L ca ccd)) Q E s := by
  obtain ⟨⟨o, doc, pm, an, ct, ho, hd'⟩, _⟩ := fn
  refine Call_ (nameG F G ?_ hk hx hd) hc
  refine callWith_def hd' (wpAny_mono h (fun vs s₁ h₁ => ⟨h₁.1 _ _ ho, wpAny_call h₁.2⟩) fun _ _ x => x) he
end

section
variable {prog : Program} {w : World} {α : Type} {base : Heap} {Rep : Value → α → Prop} {V1 V2 : Value} {X Y : List α} {lt : α → α → Option Bool} {gt eq : α → α → Bool}
  {A : Around} {s : Shared} {f : Addr} {cd : Value} {outer : List Env}

/-- a call of sorted_list_difference -/
theorem sld_call {R : Result → Shared → Prop}
    (Z1 : Sq prog w (outer.filterMap (·.frame)) s.heap Rep V1 X) (Z2 : Sq prog w (outer.filterMap (·.frame)) s.heap Rep V2 Y) (hq : EqOk prog w (outer.filterMap (·.frame)) s.heap Rep eq) (hlt : LtOk prog w (outer.filterMap (·.frame)) s.heap Rep lt) (hgt : GtOk prog w (outer.filterMap (·.frame)) s.heap Rep lt gt)
    (hu : A.units < 7000) (hr : A.depth < recursionLimit) (hh : A.handled = none) (B : Below A base outer s.heap) (hsz : base.objs.size ≤ s.heap.objs.size) (lim : base.NoLimit) (hI : Bn base "IndexError" (.type "IndexError"))
    (fn : Fn base f "sorted_list_difference" (stmtAt PySem.Challenge.pw_dn0234_05 1) cd)
    (hR : ∀ s' t aM aU ms us n1 n2, Kp (outer.filterMap (·.frame)) s.heap s'.heap → s'.os = s.os → s'.gens = s.gens → s'.heap.get? t = some (tupOf [.ref aM, .ref aU]) → s.heap.get? t = none →
      s'.heap.get? aM = some (listOf ms.toArray n1) → s'.heap.get? aU = some (listOf us.toArray n2) → s.heap.get? aM = none → s.heap.get? aU = none → aM ≠ aU → Fi Rep lt gt eq X Y ms us → R (.ok (.ret (.ref t))) s')
    (hE : sld lt gt eq X Y = none → ∀ (hm : Heap) s' e, Kp (outer.filterMap (·.frame)) s.heap hm → Fly hm.get? (s.heap.objs.size :: outer.filterMap (·.frame)) e "TypeError" true .none s'.heap → s'.os = s.os → s'.gens = s.gens → R (.error (.ref e)) s') :
    codeAny (model prog w) A (.call (.ref f) ⟨[V1, V2], []⟩) R s := by
  refine callFn (binds := [("expected", V1), ("actual", V2)]) (fn.keep B.stays) (lim.keeps B.stays) hr (fun _ _ _ _ => rfl) (locs rfl) (fun s₁ F g => ?_) (by decide)
  have nL : s.heap.get? s.heap.objs.size = none := Heap.get?_none_of_le (Nat.le_refl _)
  have F' : Fr base s.heap.objs.size s₁.heap _ := ⟨F.ns, fun b o e => F.keep b o (B.stays b o e), hsz⟩
  refine sld_body (h₀ := s.heap) Z1 Z2 hq hlt hgt (by show A.units + 3 < 8000; omega) hh (Around.frames_deeper B.stack) B.frames B.stays nL hI F' (.of_keep g.keep) rfl rfl (fun s' t aM aU ms us n1 n2 kp os gens ht nt hM hU nM nU MU fi => ?_) fun e s' hT => ?_
  · exact hR s' t aM aU ms us n1 n2 kp (os.trans g.os) (gens.trans g.gens) ht nt hM hU nM nU MU fi
  · obtain ⟨hn, hm, m, Fm, kp, fl, FF, os, gens⟩ := hT
    refine leaving_ (L := s.heap.objs.size) (Around.frames_deeper B.stack) FF rfl fl fun h' fl' FF' => ?_
    exact hE hn hm _ e kp fl' (os.trans g.os) (gens.trans g.gens)
end
open PySem PySem.W PyProof.Rows PySem.Calls

section
variable {prog : Program} {w : World} {A : Around} {E : Value → Shared → Prop} {s : Shared}

/-- xs.extend(ys), both lists, as a call -/
theorem extendCall {D b : Addr} {ms vs : List Value} {n k : Nat} {Q : Value → Shared → Prop} (hD : s.heap.get? D = some (listOf ms.toArray n)) (hb : s.heap.get? b = some (listOf vs.toArray k)) (hz : ms.length + vs.length ≤ 10000000)
    (h : ∀ s' n', ExL D s s' → s'.heap.get? D = some (listOf (ms ++ vs).toArray n') → Q .none s') : wpAny (model prog w) A (call (.builtin "list.extend") [.ref D, .ref b]) Q E s := by
  have hsz : ms.toArray.size + vs.toArray.size ≤ sizeLine := by rw [List.size_toArray, List.size_toArray, sizeLine_eq]; omega
  refine call_meets PySem.F.slot_list_extend ⟨_, hD, rfl⟩ PySem.F.entry_list_extend (PySem.F.args_list_extend_2 _ _) (AutoSeq1.list_extend_list_list_0 D ms.toArray n b vs.toArray k (extend_door hsz) (Nat.le_trans (Nat.le_add_right _ _) hsz) (Nat.le_trans hsz (Nat.le_succ _))) ⟨hD, hb, ?_⟩
  have e : ms.toArray ++ vs.toArray = (ms ++ vs).toArray := by simp
  refine h _ (if (ms.toArray ++ vs.toArray).size == ms.toArray.size then n else n + 1) ⟨fun c o nc q => ?_, rfl, rfl⟩ ?_
  · exact (Heap.get?_update_other _ _ (Ne.symm nc)).trans q
  · rw [Heap.get?_update_self _ hD (by rw [mapSeq_app]; rfl), mapSeq_app, e]
end

section
variable {prog : Program} {w : World} {α : Type} {S : List Addr} {h₀ : Heap} {Rep : Value → α → Prop} {X : List α} {vs : List Value}

/-- a list that stands -/
theorem sqList {l : Addr} {n : Nat} (hl : h₀.get? l = some (listOf vs.toArray n)) (hS : l ∉ S) (ha : All2 Rep vs X) (hz : X.length < 100000) : Sq prog w S h₀ Rep (.ref l) X where
  len := hz
  get := by
    intro A E s Q value x p i t kp hi h
    have hL : s.heap.IsList l vs.toArray := ⟨_, kp.keep _ _ hl hS, rfl, n, rfl⟩
    have hv : i < vs.length := by rw [ha.length]; exact hi
    refine tail_any hL.typeIs slot_list_getitem.lookup (wpAny_getItem_list (x := vs[i]) hL (by omega) (by omega) ?_ (h _ _ (.refl _) (ha.get i hv hi))) rfl
    simp [hv]
  out := by
    intro A E s S' Q value x p i t kp hd hi hb h
    have hL : s.heap.IsList l vs.toArray := ⟨_, kp.keep _ _ hl hS, rfl, n, rfl⟩
    refine tail_any hL.typeIs slot_list_getitem.lookup (getItem_list_out hd hL ?_ (by omega) h) rfl
    rw [List.size_toArray, ha.length]; omega
  cut := by
    intro A E s Q value lo p i t sl aM ms k kp hu hsl hi hM hms nM h
    have hL : s.heap.IsList l vs.toArray := ⟨_, kp.keep _ _ hl hS, rfl, n, rfl⟩
    have hv := ha.length
    refine tail_any hL.typeIs slot_list_getitem.lookup (wpAny_getItem_list_slice hL hsl (.int _ _) .none .none (by simp) ?_ (by rw [List.size_toArray, sizeLine_eq]; omega)) rfl
    have e : slicePick vs.toArray (some (i : Int)) none none = (vs.drop i).toArray := by rw [slicePick_from _ _ (by rw [List.size_toArray]; omega)]
    rw [e]
    refine extendCall (s := { s with heap := s.heap.push { cls := .type "list", data := .seq (vs.drop i).toArray } }) (Heap.get?_push_of_some _ hM) (Heap.get?_push_size _ rfl) (by rw [List.length_drop]; omega) fun s' n' g hM' => ?_
    refine h s' _ n' ?_ hM' (ha.drop i)
    exact ⟨fun c o nc q => g.keep c o nc (Heap.get?_push_of_some _ q), g.os, g.gens⟩
end

/-- ints -/
def RepI (v : Value) (x : Int) : Prop := ∃ t, v = .int x t
theorem intsAll {vs : List Value} {ns : List Int} (h : IntsAre vs ns) : All2 RepI vs ns := by
  induction h with
  | nil => exact .nil
  | cons _ _ _ ih => exact .cons ⟨_, rfl⟩ ih
theorem eqI {prog : Program} {w : World} {S : List Addr} {h₀ : Heap} : EqOk prog w S h₀ RepI (fun x y => x == y) := by
  rintro A E s Q v u x y _ _ ⟨t, rfl⟩ ⟨t', rfl⟩ h
  exact eq_int (h _ (.refl _))
theorem ltI {prog : Program} {w : World} {S : List Addr} {h₀ : Heap} : LtOk prog w S h₀ RepI (fun x y => some (decide (x < y))) := by
  rintro A E s Q v u x y _ _ _ ⟨t, rfl⟩ ⟨t', rfl⟩ h _
  exact lt_int (h _ rfl _ (.refl _))
theorem gtI {prog : Program} {w : World} {S : List Addr} {h₀ : Heap} : GtOk prog w S h₀ RepI (fun x y => some (decide (x < y))) (fun x y => decide (x > y)) := by
  rintro A E s Q v u x y _ _ _ ⟨t, rfl⟩ ⟨t', rfl⟩ _ h
  exact gt_int (h _ (.refl _))
open PySem PySem.W PyProof.Rows PySem.Calls

abbrev No : Value → Shared → Prop := fun _ _ => False

/-- what stands at the places fp stands -/
def Stay (fp : List Addr) (h h' : Heap) : Prop := ∀ b ∈ fp, ∀ o, h.get? b = some o → h'.get? b = some o

/-- an iterator: its places, its items, its state -/
structure Iter (prog : Program) (w : World) (it : Addr) (fp : List Addr) (n : Nat) (V : Nat → Value → Prop) (P : Nat → Heap → Prop) : Prop where
  mem : it ∈ fp
  there : ∀ {k h}, P k h → h.get? it ≠ none
  keep : ∀ {k h h'}, P k h → Stay fp h h' → P k h'
  item : ∀ {A : Around} {E : Value → Shared → Prop} {s : Shared} {k : Nat} {Q : Option Value → Shared → Prop}, P k s.heap → k < n → (∀ v s', ExL it s s' → P (k + 1) s'.heap → V k v → Q (some v) s') → wpAny (model prog w) A (pyNext (.ref it)) Q E s
  fin : ∀ {A : Around} {E : Value → Shared → Prop} {s : Shared} {Q : Option Value → Shared → Prop}, A.handled = none → P n s.heap → (∀ s', ExL it s s' → Q none s') → wpAny (model prog w) A (pyNext (.ref it)) Q E s
  again : ∀ {A : Around} {E : Value → Shared → Prop} {s : Shared} {k : Nat} {Q : Value → Shared → Prop}, P k s.heap → Q (.ref it) s → wpAny (model prog w) A (pyIter (.ref it)) Q E s
  own : ∀ {s : Shared} {k : Nat} {M : Model} {A : Around} {E : Value → Shared → Prop} {x : Str} {p : Pos} {v : Value} {Q : Unit → Shared → Prop}, P k s.heap → Q () s → wpAny M A (letOwnedTupleGo (.Name x p) (.ref it) v) Q E s

section
variable {prog : Program} {w : World} {A : Around} {E : Value → Shared → Prop} {s : Shared}

theorem iterList {it l : Addr} {vs : List Value} (hil : it ≠ l) : Iter prog w it [it, l] vs.length (fun k v => vs[k]? = some v) (fun k h => h.IsListIter it l k ∧ h.IsList l vs.toArray) where
  mem := .head _
  there := by
    rintro k h ⟨⟨o, ho, r⟩, _⟩ q
    rw [ho] at q; cases q
  keep := by
    rintro k h h' ⟨⟨o, ho, r⟩, ⟨o', ho', r'⟩⟩ st
    exact ⟨⟨o, st it (.head _) o ho, r⟩, ⟨o', st l (.tail _ (.head _)) o' ho', r'⟩⟩
  item := by
    rintro A E s k Q ⟨hi, hl⟩ hk h
    have hx : vs.toArray[k]? = some vs[k] := by simp [hk]
    refine wpAny_pyNext_list_item hi hl hx fun h' hi' sb => h _ _ ⟨fun b o n e => (sb.2 b n).trans e, rfl, rfl⟩ ⟨hi', hl.extBut sb.extBut (Ne.symm hil)⟩ (by simp [hk])
  fin := by
    rintro A E s Q hh ⟨hi, hl⟩ h
    exact wpAny_pyNext_list_end hh hi hl (by simp) fun h' eb => h _ ⟨fun b o n e => eb b o n e, rfl, rfl⟩
  again := by
    rintro A E s k Q ⟨hi, _⟩ h
    exact wpAny_pyIter_listiter hi h
  own := by
    intro s k M A E x p v Q _ h
    exact wpAny_pure h

/-- iter(l) of a list -/
theorem pyIterList {l : Addr} {vs : List Value} {n : Nat} {Q : Value → Shared → Prop} (hl : s.heap.get? l = some (listOf vs.toArray n))
    (h : ∀ s' it, Grow s s' → s.heap.get? it = none → it ≠ l → (s'.heap.IsListIter it l 0 ∧ s'.heap.IsList l vs.toArray) → Q (.ref it) s') : wpAny (model prog w) A (pyIter (.ref l)) Q E s := by
  have hL : s.heap.IsList l vs.toArray := ⟨_, hl, rfl, n, rfl⟩
  exact wpAny_pyIter_list hL (h _ _ ⟨fun _ _ e => Heap.get?_push_of_some _ e, rfl, rfl⟩ (Heap.get?_none_of_le (Nat.le_refl _)) (Nat.ne_of_gt (Heap.lt_size hl)) ⟨⟨_, Heap.get?_push_size _ rfl, rfl, rfl⟩, hL.push _⟩)

/-- range(n) -/
theorem iterRange {it : Addr} {n : Nat} : Iter prog w it [it] n (fun k v => ∃ t, v = .int (k : Nat) t) (fun k h => IsRangeIter h it (k : Nat) ((n : Int) - (k : Nat)) 1) where
  mem := .head _
  there := by
    intro k h hi q
    rw [hi] at q; cases q
  keep := by
    intro k h h' hi st
    exact st it (.head _) _ hi
  item := by
    intro A E s k Q hi hk h
    refine wpAny_pyNext_range_item hi (by omega) fun h' hi' sb => h _ _ ⟨fun b o n e => (sb.2 b n).trans e, rfl, rfl⟩ ?_ ⟨_, rfl⟩
    have e : ((n : Int) - ((k + 1 : Nat) : Int)) = (n : Int) - (k : Nat) - 1 := by omega
    rw [e]; exact hi'
  fin := by
    intro A E s Q hh hi h
    exact wpAny_pyNext_range_end hh hi (by omega) fun h' eb => h _ ⟨fun b o n e => eb b o n e, rfl, rfl⟩
  again := by
    intro A E s k Q hi h
    have hT : s.TypeIs (.ref it) "range_iterator" := ⟨_, hi, rfl⟩
    refine wpAny_pyIter_slot hT PySem.F.slot_range_iterator_iter (wpAny_call_entry PySem.F.slot_range_iterator_iter hT PySem.F.entry_range_iterator_iter ?_ (PySem.F.args_range_iterator_iter_1 _))
    show wpAny _ _ (ret (.ref it)) _ _ s
    exact wpAny_pure ⟨_, rfl, "range_iterator", _, hT, PySem.F.slot_range_iterator_next.lookup, h⟩
  own := by
    intro s k M A E x p v Q _ h
    exact wpAny_pure h
end

section
variable {prog : Program} {w : World} {A : Around} {E : Value → Shared → Prop} {s : Shared}
/-- iter(range(n)) of a range that stands -/
theorem pyIterRange {r : Addr} {n : Nat} {t u v : Tok} {Q : Value → Shared → Prop} (hr : IsRange s.heap r 0 (n : Nat) 1 t u v) (hn : n < 1000000)
    (h : ∀ s' it, Grow s s' → s.heap.get? it = none → IsRangeIter s'.heap it ((0 : Nat) : Int) ((n : Int) - ((0 : Nat) : Int)) 1 → Q (.ref it) s') : wpAny (model prog w) A (pyIter (.ref r)) Q E s := by
  refine wpAny_pyIter_range hr (small_one (by decide) (by decide) (by omega) (by omega)) ?_
  rw [rangeSize_one]
  refine h _ _ ⟨fun _ _ e => Heap.get?_push_of_some _ e, rfl, rfl⟩ (Heap.get?_none_of_le (Nat.le_refl _)) ?_
  have e : (if (0 : Int) < (n : Int) then (n : Int) - 0 else 0) = (n : Int) - ((0 : Nat) : Int) := by split <;> omega
  rw [e]
  exact Heap.get?_push_size _ rfl
end

section
variable {prog : Program} {w : World} {A : Around} {s : Shared} {env : Env}

/-- a for over an iterator, by what holds after k items -/
theorem forIt {R : Result → Shared → Prop} {x : Str} {px : Pos} {body : List Stmt} {it : Addr} {fp : List Addr} {n : Nat} {V : Nat → Value → Prop} {P : Nat → Heap → Prop}
    (D : Iter prog w it fp n V P) (hh : A.handled = none) (p0 : P 0 s.heap) (I : Nat → Shared → Prop) (hI : ∀ k s₁ s₂, I k s₁ → ExL it s₁ s₂ → I k s₂) (h0 : I 0 s)
    (turn : ∀ k v s₁, k < n → V k v → P (k + 1) s₁.heap → I k s₁ → wpAny (model prog w) A (storeName env x v) (fun _ s₂ => wpAny (model prog w) A (execs body env)
      (fun f s₃ => (f = .next ∧ Stay fp s₁.heap s₃.heap ∧ I (k + 1) s₃) ∨ ∃ v, f = .ret v ∧ R (.ok (.ret v)) s₃) No s₂) No s₁)
    (hR : ∀ s', I n s' → R (.ok .next) s') : codeAny (model prog w) A (.forLoop (.Name x px) (.ref it) body [] env) R s := by
  refine codeAny_forLoop (fun c s₁ => ∃ k, k ≤ n ∧ c = n + 1 - k ∧ P k s₁.heap ∧ I k s₁) ?_ (n + 1) ⟨0, Nat.zero_le _, rfl, p0, h0⟩
  rintro c s₁ ⟨k, hk, rfl, hp, hi⟩
  rcases Nat.lt_or_eq_of_le hk with hk | rfl
  · refine D.item hp hk fun v s₂ g hp' hv => ?_
    refine wpAny_assign_Name (wpAny_mono (turn k v s₂ hk hv hp' (hI k s₁ s₂ hi g)) (fun _ s₃ h₃ => wpAny_mono h₃ (fun f s₄ h₄ => ?_) fun _ _ q => q.elim) fun _ _ q => q.elim)
    rcases h₄ with ⟨rfl, st, hi'⟩ | ⟨v, rfl, hr⟩
    · exact ⟨n + 1 - (k + 1), by omega, k + 1, by omega, rfl, D.keep hp' st, hi'⟩
    · exact hr
  · exact D.fin hh hp fun s₂ g => wpAny_execs_nil (hR s₂ (hI _ s₁ s₂ hi g))
end

open PySem PySem.W PyProof.Rows PySem.Calls

/-- a comprehension's block -/
def compScope (scope : Scope) (env : Env) : Scope := { scope with names := scope.names.map fun (n, k) => if k == .free && env.scope.kind == .function && env.kindOf n == some .cell then (n, .cell) else (n, k) }
def compEnv (scope : Scope) (env : Env) (Lc : Addr) (cl : List (Str × Addr)) : Env :=
  { scope := compScope scope env, locals := Lc, globals := env.globals, cells := cl, qual := env.qual, func := none, code := env.code, frame := env.frame, builtins := env.builtins }

/-- what is done with a comprehension's list -/
def UseOk (prog : Program) (w : World) (A : Around) (E : Value → Shared → Prop) (use : Option (Value → Sem Unit)) (Q : Value → Shared → Prop) (Lc : Addr) (acc : Value) (s' : Shared) : Prop := match use with
  | none => ∀ s₂, ExL Lc s' s₂ → Q acc s₂
  | some u => wpAny (model prog w) A (u acc) (fun _ s₂ => (∃ m, s₂.heap.Ns Lc m) ∧ ∀ s₃, ExL Lc s₂ s₃ → Q .none s₃) E s'

section
variable {prog : Program} {w : World} {A : Around} {E : Value → Shared → Prop} {s : Shared} {env : Env}

theorem comprehension_ {e : Expr} {scope : Scope} {pos : Pos} {newAcc first : Sem Value} {g : Comprehension} {gs : List Comprehension} {cl : List (Str × Addr)} {use : Option (Value → Sem Unit)} {Q : Value → Shared → Prop}
    (hcl : clausesOf e = g :: gs) (hs : ∀ x, foldedSetIterable g.iter env x = pure x) (hclos : closureFor scope env = pure cl)
    (hcell : ∀ x ∈ scope.names, x.2 ≠ .cell) (hkind : scope.kind = .function)
    (hnames : ∀ x ∈ scope.names, x.2 = .local → (compScope scope env).names.lookup x.1 = some .local)
    (h : wpAny (model prog w) A first (fun x s₁ => wpAny (model prog w) A (pyIter x) (fun it s₂ => wpAny (model prog w) A newAcc (fun acc s₃ => ∀ s₄ Lc, Grow s₃ s₄ → s₃.heap.get? Lc = none → s₄.heap.Ns Lc (fun _ => none) →
        codeAny (model prog w) A (.compStart e 0 it acc (compEnv scope env Lc cl)) (fun r s' => (∃ f, r = .ok f) ∧ (∃ m, s'.heap.Ns Lc m) ∧ UseOk prog w A E use Q Lc acc s') s₄) E s₂) E s₁) E s) :
    wpAny (model prog w) A (comprehension e scope env pos newAcc false first use) Q E s := by
  unfold comprehension
  rw [hclos, hcl]
  refine wpAny_bind (wpAny_mono h (fun x s₁ h₁ => wpAny_bind (wpAny_standAt (wpAny_bind (wpAny_of_eq (hs x) (wpAny_bind (wpAny_holding (wpAny_mono h₁ (fun it s₂ h₂ =>
    wpAny_standIf (wpAny_bind (wpAny_mono h₂ (fun acc s₃ h₃ => wpAny_bind (wpAny_pure (wpAny_bind (wpAny_newFunctionEnv hcell (fun _ q => by cases q) (fun h' hns hsb => ?_) hkind)))) fun _ _ h' => h')))
      fun _ _ h' => h'))))))) fun _ _ h' => h')
  have h₄ := h₃ { s₃ with heap := h', toks := s₃.toks + ([] : List (Str × Value)).length } s₃.heap.objs.size ⟨fun b o e => hsb.extBut b o (Nat.ne_of_lt (Heap.lt_size e)) (Heap.get?_push_of_some _ e), rfl, rfl⟩ (Heap.get?_none_of_le (Nat.le_refl _)) hns
  have hv : ∀ x ∈ (scope.names.filter fun x => (x.2 == .local || x.2 == .cell) && x.1 != (".0" : Str)), x.2 = .local →
      Env.kindOf (compEnv scope env s₃.heap.objs.size cl) x.1 = some .local := fun x hx hl => hnames x (List.mem_filter.mp hx).1 hl
  dsimp only
  refine wpAny_holding (wpAny_bind (wpAny_attempt (wpAny_holding (wpAny_run (codeAny_mono h₄ fun r s' hr => ?_)))))
  obtain ⟨⟨f, rfl⟩, ⟨m, hn⟩, hr⟩ := hr
  cases use with
  | none =>
    exact wpAny_bind (wpAny_holding (wpAny_comp_letGo (cenv := compEnv scope env s₃.heap.objs.size cl) hkind _ s' m (fun x hx => hv x (List.mem_reverse.mp hx)) hn fun h' m' _ hs' => wpAny_pure (hr _ ⟨fun b o n q => (hs'.2 b n).trans q, rfl, rfl⟩)))
  | some u =>
    refine wpAny_bind (wpAny_rule (wpAny_bind (wpAny_holding (wpAny_mono hr (fun _ s'' hu => ?_) fun _ _ q => q))))
    obtain ⟨⟨m', hn'⟩, hu⟩ := hu
    refine wpAny_bind (wpAny_comp_letGo (cenv := compEnv scope env s₃.heap.objs.size cl) hkind _ s'' m' (fun x hx => hv x ?_) hn' fun h' m'' _ hs' => wpAny_pure (hu _ ⟨fun b o n q => (hs'.2 b n).trans q, rfl, rfl⟩))
    rcases List.mem_append.mp hx with hx | hx
    · exact List.mem_reverse.mp (List.mem_of_mem_drop hx)
    · exact List.mem_reverse.mp (List.mem_of_mem_take hx)
end

/-- the conditions of a clause -/
def conds (ifs : List Expr) (env : Env) : Sem Bool := forIn ifs true fun c ok => if ok = true then (do let b ← PySem.isTrue c env (eval c env); pure (ForInStep.yield b)) else pure (ForInStep.yield ok)

section
variable {prog : Program} {w : World} {A : Around} {E : Value → Shared → Prop} {s : Shared} {env : Env}

theorem conds_nil {Q : Bool → Shared → Prop} (h : Q true s) : wpAny (model prog w) A (conds [] env) Q E s := wpAny_pure h
theorem conds_one {c : Expr} {Q : Bool → Shared → Prop} (h : wpAny (model prog w) A (PySem.isTrue c env (eval c env)) Q E s) : wpAny (model prog w) A (conds [c] env) Q E s := by
  unfold conds
  rw [List.forIn_cons, if_pos rfl]
  exact wpAny_bind (wpAny_bind (wpAny_mono h (fun b s₁ h₁ => wpAny_pure (wpAny_pure h₁)) fun _ _ x => x))

theorem compLeaf {R : Result → Shared → Prop} {elt iter : Expr} {x : Str} {px : Pos} {ifs : List Expr} {gens : List Comprehension} {d : Nat} {scope : Scope} {pos : Pos} {acc : Value} {it : Addr} {fp : List Addr} {n : Nat} {V : Nat → Value → Prop} {P : Nat → Heap → Prop}
    (hg : gens[d]? = some ⟨.Name x px, iter, ifs, 0⟩) (hg' : gens[d + 1]? = none)
    (D : Iter prog w it fp n V P) (hh : A.handled = none) (p0 : P 0 s.heap) (I : Nat → Shared → Prop) (hI : ∀ k s₁ s₂, I k s₁ → ExL it s₁ s₂ → I k s₂) (h0 : I 0 s)
    (turn : ∀ k v s₁, k < n → V k v → P (k + 1) s₁.heap → I k s₁ → wpAny (model prog w) A (storeName env x v) (fun _ s₂ => wpAny (model prog w) A (conds ifs env) (fun ok s₃ =>
      if ok = true then wpAny (model prog w) A (eval elt env) (fun u s₄ => wpAny (model prog w) A (call (.builtin "list.append") [acc, u]) (fun _ s₅ => Stay fp s₁.heap s₅.heap ∧ I (k + 1) s₅) No s₄) No s₃
      else Stay fp s₁.heap s₃.heap ∧ I (k + 1) s₃) No s₂) No s₁)
    (hR : ∀ s', I n s' → R (.ok .next) s') : codeAny (model prog w) A (.compLoop (.ListComp elt gens scope pos) d (.ref it) acc env) R s := by
  refine codeAny_loop rfl (fun c s₁ => ∃ k, k ≤ n ∧ c = n + 1 - k ∧ P k s₁.heap ∧ I k s₁) ?_ (n + 1) ⟨0, Nat.zero_le _, rfl, p0, h0⟩
  rintro c s₁ ⟨k, hk, rfl, hp, hi⟩
  show wpAny _ _ ((compTurn (.ListComp elt gens scope pos) d (.ref it) acc env).onRaise (fun x => do noteFrame x env; theTreesLotGoes x)) _ _ s₁
  refine wpAny_noted ?_
  unfold compTurn
  dsimp only
  rw [hg]
  dsimp only
  refine wpAny_bind (wpAny_standAt ?_)
  rw [if_neg (by decide)]
  refine wpAny_bind ?_
  rcases Nat.lt_or_eq_of_le hk with hk | rfl
  · refine D.item hp hk fun v s₂ g hp' hv => ?_
    dsimp only
    refine wpAny_bind (D.own hp' (wpAny_bind (wpAny_assign_Name ?_)))
    refine wpAny_mono (turn k v s₂ hk hv hp' (hI k s₁ s₂ hi g)) (fun _ s₃ h₃ => ?_) fun _ _ q => q.elim
    refine wpAny_bind (wpAny_mono h₃ (fun ok s₄ h₄ => ?_) fun _ _ q => q.elim)
    rw [hg']
    cases ok with
    | true =>
      rw [if_pos rfl] at h₄ ⊢
      refine wpAny_bind (wpAny_bind (wpAny_mono h₄ (fun u s₅ h₅ => wpAny_bind (wpAny_mono h₅ (fun _ s₆ h₆ => wpAny_pure (wpAny_pure ⟨rfl, n + 1 - (k + 1), by omega, k + 1, by omega, rfl, D.keep hp' h₆.1, h₆.2⟩)) fun _ _ q => q.elim)) fun _ _ q => q.elim))
    | false =>
      rw [if_neg (by decide)] at h₄ ⊢
      exact wpAny_pure ⟨rfl, n + 1 - (k + 1), by omega, k + 1, by omega, rfl, D.keep hp' h₄.1, h₄.2⟩
  · exact D.fin hh hp fun s₂ g => wpAny_pure (hR s₂ (hI _ s₁ s₂ hi g))

theorem compInner {R : Result → Shared → Prop} {elt iter iter' t' : Expr} {x : Str} {px : Pos} {ifs ifs' : List Expr} {gens : List Comprehension} {d : Nat} {scope : Scope} {pos : Pos} {acc : Value} {it : Addr} {fp : List Addr} {n : Nat} {V : Nat → Value → Prop} {P : Nat → Heap → Prop}
    (hg : gens[d]? = some ⟨.Name x px, iter, ifs, 0⟩) (hg' : gens[d + 1]? = some ⟨t', iter', ifs', 0⟩) (hs : ∀ x, foldedSetIterable iter' env x = pure x)
    (D : Iter prog w it fp n V P) (hh : A.handled = none) (p0 : P 0 s.heap) (I : Nat → Shared → Prop) (hI : ∀ k s₁ s₂, I k s₁ → ExL it s₁ s₂ → I k s₂) (h0 : I 0 s)
    (turn : ∀ k v s₁, k < n → V k v → P (k + 1) s₁.heap → I k s₁ → wpAny (model prog w) A (storeName env x v) (fun _ s₂ => wpAny (model prog w) A (conds ifs env) (fun ok s₃ =>
      if ok = true then wpAny (model prog w) A (eval iter' env) (fun y s₄ => wpAny (model prog w) A (pyIter y) (fun it' s₅ =>
        codeAny (model prog w) A (.compStart (.ListComp elt gens scope pos) (d + 1) it' acc env) (fun r s₆ => (∃ f, r = .ok f) ∧ Stay fp s₁.heap s₆.heap ∧ I (k + 1) s₆) s₅) No s₄) No s₃
      else Stay fp s₁.heap s₃.heap ∧ I (k + 1) s₃) No s₂) No s₁)
    (hR : ∀ s', I n s' → R (.ok .next) s') : codeAny (model prog w) A (.compLoop (.ListComp elt gens scope pos) d (.ref it) acc env) R s := by
  refine codeAny_loop rfl (fun c s₁ => ∃ k, k ≤ n ∧ c = n + 1 - k ∧ P k s₁.heap ∧ I k s₁) ?_ (n + 1) ⟨0, Nat.zero_le _, rfl, p0, h0⟩
  rintro c s₁ ⟨k, hk, rfl, hp, hi⟩
  show wpAny _ _ ((compTurn (.ListComp elt gens scope pos) d (.ref it) acc env).onRaise (fun x => do noteFrame x env; theTreesLotGoes x)) _ _ s₁
  refine wpAny_noted ?_
  unfold compTurn
  dsimp only
  rw [hg]
  dsimp only
  refine wpAny_bind (wpAny_standAt ?_)
  rw [if_neg (by decide)]
  refine wpAny_bind ?_
  rcases Nat.lt_or_eq_of_le hk with hk | rfl
  · refine D.item hp hk fun v s₂ g hp' hv => ?_
    dsimp only
    refine wpAny_bind (D.own hp' (wpAny_bind (wpAny_assign_Name ?_)))
    refine wpAny_mono (turn k v s₂ hk hv hp' (hI k s₁ s₂ hi g)) (fun _ s₃ h₃ => ?_) fun _ _ q => q.elim
    refine wpAny_bind (wpAny_mono h₃ (fun ok s₄ h₄ => ?_) fun _ _ q => q.elim)
    rw [hg']
    cases ok with
    | true =>
      rw [if_pos rfl] at h₄ ⊢
      dsimp only
      refine wpAny_bind (wpAny_mono h₄ (fun y s₅ h₅ => ?_) fun _ _ q => q.elim)
      refine wpAny_bind (wpAny_standAt ?_)
      rw [if_neg (by decide), hs]
      refine wpAny_bind (wpAny_pure ?_)
      rw [if_neg (by decide)]
      refine wpAny_bind (wpAny_holding (wpAny_mono h₅ (fun it' s₆ h₆ => ?_) fun _ _ q => q.elim))
      refine wpAny_bind (wpAny_runOwn (codeAny_mono h₆ fun r s₇ h₇ => ?_))
      obtain ⟨⟨f, rfl⟩, st, hi'⟩ := h₇
      exact wpAny_pure ⟨rfl, n + 1 - (k + 1), by omega, k + 1, by omega, rfl, D.keep hp' st, hi'⟩
    | false =>
      rw [if_neg (by decide)] at h₄ ⊢
      exact wpAny_pure ⟨rfl, n + 1 - (k + 1), by omega, k + 1, by omega, rfl, D.keep hp' h₄.1, h₄.2⟩
  · exact D.fin hh hp fun s₂ g => wpAny_pure (hR s₂ (hI _ s₁ s₂ hi g))

theorem compStart_ {R : Result → Shared → Prop} {elt : Expr} {g : Comprehension} {gens : List Comprehension} {d : Nat} {scope : Scope} {pos : Pos} {acc : Value} {it : Addr} {fp : List Addr} {n k : Nat} {V : Nat → Value → Prop} {P : Nat → Heap → Prop}
    (hg : gens[d]? = some g) (ha : g.is_async = 0) (D : Iter prog w it fp n V P) (p0 : P k s.heap)
    (h : codeAny (model prog w) A (.compLoop (.ListComp elt gens scope pos) d (.ref it) acc env) R s) : codeAny (model prog w) A (.compStart (.ListComp elt gens scope pos) d (.ref it) acc env) R s := by
  refine codeAny_of_tree ?_
  show wpAny _ _ ((compStart (.ListComp elt gens scope pos) d (.ref it) acc env).onRaise (fun x => do noteFrame x env; standAt theWindowsPlace)) _ _ s
  refine wpAny_notedAt ?_
  unfold compStart
  have hc : clausesOf (.ListComp elt gens scope pos) = gens := rfl
  have e : (((clausesOf (.ListComp elt gens scope pos))[d]?).elim false fun x => x.is_async != 0) = false := by
    rw [hc, hg]; show (g.is_async != 0) = false; rw [ha]; rfl
  rw [e, if_neg (by decide)]
  refine wpAny_bind (wpAny_askSetting (wpAny_ite ?_))
  split
  · exact wpAny_pure (And.intro rfl h)
  · refine wpAny_bind (wpAny_rule ?_)
    rw [hc, hg]
    dsimp only
    refine wpAny_bind (wpAny_standAt (wpAny_bind (D.again p0 (wpAny_pure (And.intro rfl h)))))
end
open PySem PySem.W PyProof.Rows PySem.Calls

section
variable {prog : Program} {w : World} {A : Around} {E : Value → Shared → Prop} {s : Shared} {env : Env} {m : Str → Option Value}

theorem ldE {x : Str} {v : Value} {pos : Pos} {Q : Value → Shared → Prop} (hn : s.heap.Ns env.locals m) (hv : m x = some v) (h : Q v s)
    (hk : env.scope.kind = .function := by rfl) (hl : env.kindOf x = some .local := by rfl) (hd : (x == ("__debug__" : Str)) = false := by decide) : wpAny (model prog w) A (eval (.Name x pos) env) Q E s :=
  wpAny_Name (wpAny_loadName_local hk hl hn hv h) hd
theorem stE {x : Str} {v : Value} {Q : Unit → Shared → Prop} (hn : s.heap.Ns env.locals m) (h : ∀ s', s'.heap.Ns env.locals (upd m x v) → ExL env.locals s s' → Q () s')
    (hk : env.scope.kind = .function := by rfl) (hl : env.kindOf x = some .local := by rfl) : wpAny (model prog w) A (storeName env x v) Q E s :=
  wpAny_storeName_local hl hn (fun _ hn' hs => h _ hn' ⟨fun b _ n e => (hs.2 b n).trans e, rfl, rfl⟩) (by rw [hk]; rfl)

/-- a captured name -/
theorem ldCell {x : Str} {v : Value} {pos : Pos} {a : Addr} {o : Obj} {Q : Value → Shared → Prop} (hc : env.cells.lookup x = some a) (ho : s.heap.get? a = some o) (hd' : o.data = .cell (some v)) (h : Q v s)
    (hk : env.scope.kind = .function := by rfl) (hl : env.kindOf x = some .cell := by rfl) (hd : (x == ("__debug__" : Str)) = false := by decide) : wpAny (model prog w) A (eval (.Name x pos) env) Q E s := by
  refine wpAny_Name ?_ hd
  have hb : env.blockKind = .function := by unfold Env.blockKind; rw [hk]; rfl
  have ha : env.scope.kind.isAnnotationScope = false := by rw [hk]; rfl
  unfold loadName
  rw [ha, hb, hl]
  simp only [Bool.false_and, Bool.false_eq_true, if_false]
  unfold cellOf
  rw [hc]
  refine wpAny_bind (wpAny_pure ?_)
  unfold cellGet
  refine wpAny_bind (wpAny_bind (wpAny_load ho ?_))
  rw [hd']
  exact wpAny_pure (wpAny_pure h)

theorem nameBE {x : Str} {v : Value} {pos : Pos} {base : Heap} {Q : Value → Shared → Prop} (hb : base.StaysIn s.heap) (B : Bn base x v) (h : Q v s) (eg : env.globals = mainGlobals := by rfl) (eb : env.builtins = builtinsNs := by rfl)
    (hk : env.scope.kind = .function := by rfl) (hx : env.kindOf x = some .globalImplicit := by rfl) (hd : (x == ("__debug__" : Str)) = false := by decide) : wpAny (model prog w) A (eval (.Name x pos) env) Q E s :=
  let ⟨_, _, g, n, b, v'⟩ := B
  Calls.Name_function_global hk hx (Calls.loadGlobal_builtin (env := env) (eg ▸ g.keeps hb) n (eb ▸ b.keeps hb) v' h) hd
end

/-- the place that a value names -/
def rf : Value → List Addr
  | .ref c => [c]
  | _ => []

section
variable {prog : Program} {w : World} {A : Around} {E : Value → Shared → Prop} {s : Shared} {env : Env} {α β : Type}

/-- where a comprehension's (or a loop's) items come from -/
structure Src (prog : Program) (w : World) (s s₂ : Shared) (RA : Value → α → Prop) (X : List α) (it : Addr) (fp : List Addr) (V : Nat → Value → Prop) (P : Nat → Heap → Prop) : Prop where
  D : Iter prog w it fp X.length V P
  p0 : P 0 s₂.heap
  g : Grow s s₂
  ni : s.heap.get? it = none
  ii : s₂.heap.get? it ≠ none
  fp : ∀ b ∈ fp, s₂.heap.get? b ≠ none
  ra : ∀ k v (hk : k < X.length), V k v → RA v X[k]

/-- the list that «[elt for x in .. if ..]» fills: the walk over its one clause -/
theorem compWalk {R : Result → Shared → Prop} {s₂ s₃ s₄ : Shared} {RA : Value → α → Prop} {RO : Value → β → Heap → Prop} {X : List α} {p : α → Bool} {f : α → β} {elt iter : Expr} {x : Str} {px : Pos} {ifs : List Expr} {gens : List Comprehension} {d : Nat} {scope : Scope} {pos : Pos} {it Lc Dl : Addr} {fp : List Addr} {V : Nat → Value → Prop} {P : Nat → Heap → Prop} {us₀ : List Value} {bs₀ : List β}
    (hg : gens[d]? = some ⟨.Name x px, iter, ifs, 0⟩) (hg' : gens[d + 1]? = none) (hh : A.handled = none)
    (mono : ∀ u b h h', RO u b h → (∀ c ∈ rf u, ∀ o, h.get? c = some o → h'.get? c = some o) → RO u b h')
    (S : Src prog w s s₂ RA X it fp V P) (g₄ : Grow s₂ s₄) (nD : s.heap.get? Dl = none) (nL : s.heap.get? Lc = none) (fD : Dl ∉ fp) (fL : Lc ∉ fp) (LD : Lc ≠ Dl) (eL : env.locals = Lc)
    (hns : ∃ m, s₄.heap.Ns Lc m) (hD : ∃ j, s₄.heap.get? Dl = some (listOf us₀.toArray j)) (a₀ : All2 (fun u b => RO u b s₄.heap) us₀ bs₀) (o₀ : ∀ u ∈ us₀, ∀ c ∈ rf u, s₄.heap.get? c ≠ none ∧ c ≠ it ∧ c ≠ Lc ∧ c ≠ Dl) (hz : us₀.length + X.length < 1000000)
    (hk : env.scope.kind = .function) (hl : env.kindOf x = some .local)
    (hcond : ∀ v a s₁ m, Grow s s₁ → RA v a → s₁.heap.Ns Lc m → m x = some v → wpAny (model prog w) A (conds ifs env) (fun ok s₂ => Grow s₁ s₂ ∧ ok = p a) No s₁)
    (helt : ∀ v a s₁ m, Grow s s₁ → RA v a → p a = true → s₁.heap.Ns Lc m → m x = some v → wpAny (model prog w) A (eval elt env) (fun u s₂ => Grow s₁ s₂ ∧ RO u (f a) s₂.heap ∧ ∀ c ∈ rf u, s₂.heap.get? c ≠ none ∧ (s₁.heap.get? c = none ∨ s.heap.get? c ≠ none)) No s₁)
    (hR : ∀ s' us j, (∀ b o, b ≠ it → b ≠ Lc → b ≠ Dl → s₄.heap.get? b = some o → s'.heap.get? b = some o) → s'.os = s₄.os → s'.gens = s₄.gens → (∃ m, s'.heap.Ns Lc m) → s'.heap.get? Dl = some (listOf us.toArray j) → All2 (fun u b => RO u b s'.heap) us (bs₀ ++ (X.filter p).map f) →
      (∀ u ∈ us, ∀ c ∈ rf u, s'.heap.get? c ≠ none ∧ c ≠ it ∧ c ≠ Lc ∧ c ≠ Dl) → us.length ≤ us₀.length + X.length → R (.ok .next) s') :
    codeAny (model prog w) A (.compLoop (.ListComp elt gens scope pos) d (.ref it) (.ref Dl) env) R s₄ := by
  subst eL
  have iD : it ≠ Dl := fun q => fD (q ▸ S.D.mem)
  have iL : it ≠ env.locals := fun q => fL (q ▸ S.D.mem)
  have gs₄ : Grow s s₄ := S.g.trans g₄
  have toAll : ∀ {h h' : Heap} {us : List Value} {bs : List β}, All2 (fun u b => RO u b h) us bs → (∀ u ∈ us, ∀ c ∈ rf u, ∀ o, h.get? c = some o → h'.get? c = some o) → All2 (fun u b => RO u b h') us bs := by
    intro h h' us bs ha
    induction ha with
    | nil => exact fun _ => .nil
    | cons r _ ih => exact fun hh => .cons (mono _ _ _ _ r (hh _ (.head _))) (ih fun u hu => hh u (.tail _ hu))
  have stay : ∀ {h h' : Heap} {c : Addr}, (∀ o, h.get? c = some o → h'.get? c = some o) → h.get? c ≠ none → h'.get? c ≠ none := by
    intro h h' c k n q
    cases e : h.get? c with
    | none => exact n e
    | some o => rw [k o e] at q; cases q
  -- the invariant
  refine compLeaf hg hg' S.D hh (S.D.keep S.p0 fun b _ o e => g₄.keep b o e)
    (fun k s₁ => (∀ b o, b ≠ it → b ≠ env.locals → b ≠ Dl → s₄.heap.get? b = some o → s₁.heap.get? b = some o) ∧ s₁.os = s₄.os ∧ s₁.gens = s₄.gens ∧ (∃ m, s₁.heap.Ns env.locals m) ∧
      ∃ us j, s₁.heap.get? Dl = some (listOf us.toArray j) ∧ All2 (fun u b => RO u b s₁.heap) us (bs₀ ++ ((X.take k).filter p).map f) ∧ (∀ u ∈ us, ∀ c ∈ rf u, s₁.heap.get? c ≠ none ∧ c ≠ it ∧ c ≠ env.locals ∧ c ≠ Dl) ∧ us.length ≤ us₀.length + k)
    ?_ ?_ ?_ ?_
  · -- the iterator turns
    rintro k s₁ s₂ ⟨h1, h2, h3, ⟨m, h4⟩, us, j, h5, h6, h7, h8⟩ g
    have kc : ∀ u ∈ us, ∀ c ∈ rf u, ∀ o, s₁.heap.get? c = some o → s₂.heap.get? c = some o := fun u hu c hc o e => g.keep c o (h7 u hu c hc).2.1 e
    refine ⟨fun b o n1 n2 n3 e => g.keep b o n1 (h1 b o n1 n2 n3 e), g.os.trans h2, g.gens.trans h3, ?_, us, j, g.keep _ _ (Ne.symm iD) h5, toAll h6 kc, fun u hu c hc => ⟨stay (kc u hu c hc) (h7 u hu c hc).1, (h7 u hu c hc).2⟩, h8⟩
    obtain ⟨o, es, ep, ho, r⟩ := h4
    exact ⟨m, o, es, ep, g.keep _ _ (Ne.symm iL) ho, r⟩
  · -- the start
    obtain ⟨j, hD⟩ := hD
    exact ⟨fun b o _ _ _ e => e, rfl, rfl, hns, us₀, j, hD, by simpa using a₀, o₀, by omega⟩
  · -- a turn
    rintro k v s₁ hkn hv hp ⟨h1, h2, h3, ⟨m, h4⟩, us, j, h5, h6, h7, h8⟩
    have ra := S.ra k v hkn hv
    have git := S.D.there hp
    refine stE h4 (fun s₂ hn₂ g₂ => ?_) hk hl
    have gs : ∀ {s' : Shared}, ExL env.locals s₁ s' → Grow s s' := fun {s'} g => by
      refine ⟨fun b o e => g.keep b o (fun q => by rw [q, nL] at e; cases e) (h1 b o (fun q => by rw [q, S.ni] at e; cases e) (fun q => by rw [q, nL] at e; cases e) (fun q => by rw [q, nD] at e; cases e) (gs₄.keep b o e)), ?_, ?_⟩
      · exact g.os.trans (h2.trans gs₄.os)
      · exact g.gens.trans (h3.trans gs₄.gens)
    have gs₂ := gs g₂
    refine wpAny_mono (hcond v X[k] s₂ _ gs₂ ra hn₂ upd_same) (fun ok s₃ h₃ => ?_) fun _ _ q => q
    obtain ⟨g₃, rfl⟩ := h₃
    have tk : X.take (k + 1) = X.take k ++ [X[k]] := by rw [List.take_succ_eq_append_getElem hkn]
    have e₁₃ : ExL env.locals s₁ s₃ := g₂.trans g₃.exL
    have kc : ∀ u ∈ us, ∀ c ∈ rf u, ∀ o, s₁.heap.get? c = some o → s₃.heap.get? c = some o := fun u hu c hc o e => e₁₃.keep c o (h7 u hu c hc).2.2.1 e
    cases hpk : p X[k] with
    | false =>
      rw [if_neg (by decide)]
      refine ⟨fun b hb o e => e₁₃.keep b o (fun q => fL (q ▸ hb)) e, fun b o n1 n2 n3 e => e₁₃.keep b o n2 (h1 b o n1 n2 n3 e), e₁₃.os.trans h2, e₁₃.gens.trans h3, ⟨_, hn₂.keeps g₃.keep⟩, us, j, e₁₃.keep _ _ (Ne.symm LD) h5, ?_, fun u hu c hc => ⟨stay (kc u hu c hc) (h7 u hu c hc).1, (h7 u hu c hc).2⟩, by omega⟩
      rw [tk, List.filter_append]
      have : [X[k]].filter p = [] := by simp [hpk]
      rw [this, List.append_nil]
      exact toAll h6 kc
    | true =>
      rw [if_pos rfl]
      refine wpAny_mono (helt v X[k] s₃ _ (gs₂.trans g₃) ra hpk (hn₂.keeps g₃.keep) upd_same) (fun u s₅ h₅ => ?_) fun _ _ q => q
      obtain ⟨g₅, ro, fr⟩ := h₅
      have e₁₅ : ExL env.locals s₁ s₅ := e₁₃.trans g₅.exL
      have h5' := e₁₅.keep _ _ (Ne.symm LD) h5
      refine append_at h5' (fun h' sb hD' => ?_) (by rw [List.size_toArray, sizeLine_eq]; omega)
      have k5 : ∀ b o, b ≠ Dl → s₅.heap.get? b = some o → h'.get? b = some o := fun b o n e => (sb.2 b n).trans e
      have ncu : ∀ c ∈ rf u, c ≠ it ∧ c ≠ env.locals ∧ c ≠ Dl := fun c hc => by
        rcases (fr c hc).2 with q | q
        · have nx : ∀ {d : Addr}, s₃.heap.get? d ≠ none → c ≠ d := fun n e => n (e ▸ q)
          refine ⟨nx (stay (fun o e => e₁₃.keep it o iL e) git), nx ?_, nx ?_⟩
          · obtain ⟨o, _, _, ho, _⟩ := hn₂.keeps g₃.keep
            rw [ho]; exact fun q => by cases q
          · rw [e₁₃.keep _ _ (Ne.symm LD) h5]; exact fun q => by cases q
        · refine ⟨fun e => q (e ▸ S.ni), fun e => q (e ▸ nL), fun e => q (e ▸ nD)⟩
      have e' : us.toArray.push u = (us ++ [u]).toArray := by simp
      rw [e'] at hD'
      refine ⟨fun b hb o e => k5 b o (fun q => fD (q ▸ hb)) (e₁₅.keep b o (fun q => fL (q ▸ hb)) e), fun b o n1 n2 n3 e => k5 b o n3 (e₁₅.keep b o n2 (h1 b o n1 n2 n3 e)), e₁₅.os.trans h2, e₁₅.gens.trans h3, ?_, us ++ [u], _, hD', ?_, ?_, ?_⟩
      · obtain ⟨o, es, ep, ho, r⟩ := hn₂.keeps (fun b o e => g₅.keep b o (g₃.keep b o e))
        exact ⟨_, o, es, ep, k5 _ _ LD ho, r⟩
      · rw [tk, List.filter_append, List.map_append, ← List.append_assoc]
        refine (toAll h6 fun u hu c hc o e => k5 c o (h7 u hu c hc).2.2.2 (e₁₅.keep c o (h7 u hu c hc).2.2.1 e)).append ?_
        have : [X[k]].filter p = [X[k]] := by simp [hpk]
        rw [this]
        exact .cons (mono _ _ _ _ ro fun c hc o e => k5 c o (ncu c hc).2.2 e) .nil
      · intro u' hu c hc
        rcases List.mem_append.mp hu with hu | hu
        · exact ⟨stay (fun o e => k5 c o (h7 u' hu c hc).2.2.2 (e₁₅.keep c o (h7 u' hu c hc).2.2.1 e)) (h7 u' hu c hc).1, (h7 u' hu c hc).2⟩
        · rw [List.mem_singleton.mp hu] at hc
          exact ⟨stay (fun o e => k5 c o (ncu c hc).2.2 e) (fr c hc).1, ncu c hc⟩
      · simp; omega
  · -- the end
    rintro s' ⟨h1, h2, h3, h4, us, j, h5, h6, h7, h8⟩
    rw [List.take_length] at h6
    exact hR s' us j h1 h2 h3 h4 h5 h6 h7 h8
end
open PySem PySem.W PyProof.Rows PySem.Calls

section
variable {prog : Program} {w : World} {A : Around} {E : Value → Shared → Prop} {s : Shared} {env : Env} {α β : Type}

theorem namesOk {sc sc' : List (Str × NameKind)} (h : (sc.all fun y => y.2 != .local || sc'.lookup y.1 == some .local) = true) : ∀ y ∈ sc, y.2 = .local → sc'.lookup y.1 = some .local := fun y hy q => by
  have := List.all_eq_true.mp h y hy
  rw [q] at this
  simpa using this

/-- the walk of «[elt for x in .. if ..]» with what is done with its list -/
theorem listCompU {RA : Value → α → Prop} {RO : Value → β → Heap → Prop} {X : List α} {p : α → Bool} {f : α → β} {elt iter : Expr} {x : Str} {px : Pos} {ifs : List Expr} {scope : Scope} {pos ip : Pos} {cl : List (Str × Addr)} {use : Option (Value → Sem Unit)} {Q : Value → Shared → Prop}
    (hs : ∀ y, foldedSetIterable iter env y = pure y) (hclos : closureFor scope env = pure cl) (hcell : ∀ y ∈ scope.names, y.2 ≠ .cell) (hkind : scope.kind = .function)
    (hnames : ∀ y ∈ scope.names, y.2 = .local → (compScope scope env).names.lookup y.1 = some .local) (hx : (compScope scope env).names.lookup x = some .local)
    (hh : A.handled = none)
    (mono : ∀ u b h h', RO u b h → (∀ c ∈ rf u, ∀ o, h.get? c = some o → h'.get? c = some o) → RO u b h')
    (hsrc : wpAny (model prog w) A (eval iter env) (fun y s₁ => wpAny (model prog w) A (pyIter y) (fun itv s₂ => ∃ it fp V P, itv = .ref it ∧ Src prog w s s₂ RA X it fp V P) E s₁) E s) (hz : X.length < 1000000)
    (hcond : ∀ v a s₁ Lc m, Grow s s₁ → RA v a → s₁.heap.Ns Lc m → m x = some v → wpAny (model prog w) A (conds ifs (compEnv scope env Lc cl)) (fun ok s₂ => Grow s₁ s₂ ∧ ok = p a) No s₁)
    (helt : ∀ v a s₁ Lc m, Grow s s₁ → RA v a → p a = true → s₁.heap.Ns Lc m → m x = some v → wpAny (model prog w) A (eval elt (compEnv scope env Lc cl)) (fun u s₂ => Grow s₁ s₂ ∧ RO u (f a) s₂.heap ∧ ∀ c ∈ rf u, s₂.heap.get? c ≠ none ∧ (s₁.heap.get? c = none ∨ s.heap.get? c ≠ none)) No s₁)
    (hQ : ∀ s' Lc D us j, Grow s s' → s.heap.get? D = none → s.heap.get? Lc = none → Lc ≠ D → (∃ m, s'.heap.Ns Lc m) → s'.heap.get? D = some (listOf us.toArray j) → All2 (fun u b => RO u b s'.heap) us ((X.filter p).map f) → us.length ≤ X.length →
      (∀ u ∈ us, ∀ c ∈ rf u, s'.heap.get? c ≠ none ∧ c ≠ D ∧ c ≠ Lc) → UseOk prog w A E use Q Lc (.ref D) s') :
    wpAny (model prog w) A (comprehension (.ListComp elt [⟨.Name x px, iter, ifs, 0⟩] scope pos) scope env ip (newList []) false (eval iter env) use) Q E s := by
  refine comprehension_ (g := ⟨.Name x px, iter, ifs, 0⟩) (gs := []) rfl hs hclos hcell hkind hnames (wpAny_mono hsrc (fun y s₁ h₁ => wpAny_mono h₁ (fun itv s₂ h₂ => ?_) fun _ _ q => q) fun _ _ q => q)
  obtain ⟨it, fp, V, P, rfl, S⟩ := h₂
  refine newList_ fun s₃ D g₃ gD nD => ?_
  intro s₄ Lc g₄ nL hns
  have keepS : ∀ {a : Addr}, s₂.heap.get? a = none → s.heap.get? a = none := fun {a} q => by
    cases e : s.heap.get? a with
    | none => rfl
    | some o => rw [S.g.keep _ _ e] at q; cases q
  have nL₂ : s₂.heap.get? Lc = none := by
    cases e : s₂.heap.get? Lc with
    | none => rfl
    | some o => rw [g₃.keep _ _ e] at nL; cases nL
  have LD : Lc ≠ D := fun q => by rw [q, gD] at nL; cases nL
  have hg : ([⟨.Name x px, iter, ifs, 0⟩] : List Comprehension)[0]? = some ⟨.Name x px, iter, ifs, 0⟩ := rfl
  refine compStart_ hg rfl S.D (S.D.keep S.p0 fun b _ o e => g₄.keep b o (g₃.keep b o e)) ?_
  refine compWalk (s₂ := s₂) (s₃ := s₃) (us₀ := []) (bs₀ := []) (Lc := Lc) hg rfl hh mono S (g₃.trans g₄) (keepS nD) (keepS nL₂) (fun q => S.fp _ q nD) (fun q => S.fp _ q nL₂) LD rfl ⟨_, hns⟩ ⟨0, g₄.keep _ _ gD⟩ .nil (fun u hu => by cases hu) (by simpa using hz) hkind hx
    (fun v a s₁ m => hcond v a s₁ Lc m) (fun v a s₁ m => helt v a s₁ Lc m) fun s' us j k1 k2 k3 hm hD ha hf hl => ?_
  have gs : Grow s s' := ⟨fun b o e => k1 b o (fun q => by rw [q, S.ni] at e; cases e) (fun q => by rw [q, keepS nL₂] at e; cases e) (fun q => by rw [q, keepS nD] at e; cases e) (g₄.keep b o (g₃.keep b o (S.g.keep b o e))), k2.trans (g₄.os.trans (g₃.os.trans S.g.os)), k3.trans (g₄.gens.trans (g₃.gens.trans S.g.gens))⟩
  exact ⟨⟨_, rfl⟩, hm, hQ s' Lc D us j gs (keepS nD) (keepS nL₂) LD hm hD ha (by simpa using hl) fun u hu c hc => ⟨(hf u hu c hc).1, (hf u hu c hc).2.2.2, (hf u hu c hc).2.2.1⟩⟩

/-- «[elt for x in .. if ..]» as a value -/
theorem listComp1 {RA : Value → α → Prop} {RO : Value → β → Heap → Prop} {X : List α} {p : α → Bool} {f : α → β} {elt iter : Expr} {x : Str} {px : Pos} {ifs : List Expr} {scope : Scope} {pos : Pos} {cl : List (Str × Addr)} {Q : Value → Shared → Prop}
    (hh : A.handled = none)
    (mono : ∀ u b h h', RO u b h → (∀ c ∈ rf u, ∀ o, h.get? c = some o → h'.get? c = some o) → RO u b h')
    (hsrc : wpAny (model prog w) A (eval iter env) (fun y s₁ => wpAny (model prog w) A (pyIter y) (fun itv s₂ => ∃ it fp V P, itv = .ref it ∧ Src prog w s s₂ RA X it fp V P) E s₁) E s) (hz : X.length < 1000000)
    (hcond : ∀ v a s₁ Lc m, Grow s s₁ → RA v a → s₁.heap.Ns Lc m → m x = some v → wpAny (model prog w) A (conds ifs (compEnv scope env Lc cl)) (fun ok s₂ => Grow s₁ s₂ ∧ ok = p a) No s₁)
    (helt : ∀ v a s₁ Lc m, Grow s s₁ → RA v a → p a = true → s₁.heap.Ns Lc m → m x = some v → wpAny (model prog w) A (eval elt (compEnv scope env Lc cl)) (fun u s₂ => Grow s₁ s₂ ∧ RO u (f a) s₂.heap ∧ ∀ c ∈ rf u, s₂.heap.get? c ≠ none ∧ (s₁.heap.get? c = none ∨ s.heap.get? c ≠ none)) No s₁)
    (hQ : ∀ s' D us j, Grow s s' → s.heap.get? D = none → s'.heap.get? D = some (listOf us.toArray j) → All2 (fun u b => RO u b s'.heap) us ((X.filter p).map f) → us.length ≤ X.length → (∀ u ∈ us, ∀ c ∈ rf u, s'.heap.get? c ≠ none ∧ c ≠ D) → Q (.ref D) s')
    (hs : ∀ y, foldedSetIterable iter env y = pure y := by intro _; rfl) (hclos : closureFor scope env = pure cl := by rfl) (hcell : ∀ y ∈ scope.names, y.2 ≠ .cell := by decide) (hkind : scope.kind = .function := by rfl)
    (hnames : (scope.names.all fun y => y.2 != .local || (compScope scope env).names.lookup y.1 == some .local) = true := by rfl) (hx : (compScope scope env).names.lookup x = some .local := by rfl) :
    wpAny (model prog w) A (eval (.ListComp elt [⟨.Name x px, iter, ifs, 0⟩] scope pos) env) Q E s := by
  rw [eval_ListComp]
  refine listCompU (use := none) hs hclos hcell hkind (namesOk hnames) hx hh mono hsrc hz hcond helt fun s' Lc D us j g nD nL LD hm hD ha hl hf => ?_
  intro s'' e
  have kc : ∀ u ∈ us, ∀ c ∈ rf u, ∀ o, s'.heap.get? c = some o → s''.heap.get? c = some o := fun u hu c hc o q => e.keep c o (hf u hu c hc).2.2 q
  have toAll : ∀ {us : List Value} {bs : List β}, All2 (fun u b => RO u b s'.heap) us bs → (∀ u ∈ us, ∀ c ∈ rf u, ∀ o, s'.heap.get? c = some o → s''.heap.get? c = some o) → All2 (fun u b => RO u b s''.heap) us bs := by
    intro us bs ha
    induction ha with
    | nil => exact fun _ => .nil
    | cons r _ ih => exact fun hh => .cons (mono _ _ _ _ r (hh _ (.head _))) (ih fun u hu => hh u (.tail _ hu))
  refine hQ s'' D us j ⟨fun b o q => e.keep b o (fun q' => by rw [q', nL] at q; cases q) (g.keep b o q), e.os.trans g.os, e.gens.trans g.gens⟩ nD (e.keep _ _ (Ne.symm LD) hD) (toAll ha kc) hl fun u hu c hc => ⟨fun q => ?_, (hf u hu c hc).2.1⟩
  cases q' : s'.heap.get? c with
  | none => exact (hf u hu c hc).1 q'
  | some o => rw [kc u hu c hc o q'] at q; cases q

/-- the items of a list that stands -/
theorem srcList {RA : Value → α → Prop} {X : List α} {vs : List Value} {l : Addr} {n : Nat} {s₁ : Shared} (g : Grow s s₁) (hl : s₁.heap.get? l = some (listOf vs.toArray n)) (ha : All2 RA vs X) :
    wpAny (model prog w) A (pyIter (.ref l)) (fun itv s₂ => ∃ it fp V P, itv = .ref it ∧ Src prog w s s₂ RA X it fp V P) E s₁ := by
  refine pyIterList hl fun s₂ it g₂ ni nil st => ⟨it, [it, l], fun k v => vs[k]? = some v, fun k h => h.IsListIter it l k ∧ h.IsList l vs.toArray, rfl, ?_⟩
  have D := iterList (prog := prog) (w := w) (vs := vs) nil
  have e := ha.length
  refine ⟨by rw [← e]; exact D, st, g.trans g₂, ?_, D.there st, ?_, fun k v hk hv => ?_⟩
  · cases q : s.heap.get? it with
    | none => rfl
    | some o => rw [g.keep _ _ q] at ni; cases ni
  · intro b hb q
    rcases List.mem_cons.mp hb with rfl | hb
    · exact D.there st q
    · rw [List.mem_singleton.mp hb, g₂.keep _ _ hl] at q; cases q
  · have hk' : k < vs.length := by omega
    have : v = vs[k] := by rw [List.getElem?_eq_getElem hk'] at hv; exact (Option.some.inj hv).symm
    rw [this]
    exact ha.get k hk' hk

/-- the numbers below n -/
theorem srcRange {n : Nat} {r : Addr} {t u v : Tok} {s₁ : Shared} (g : Grow s s₁) (hr : IsRange s₁.heap r 0 (n : Nat) 1 t u v) (hn : n < 1000000) :
    wpAny (model prog w) A (pyIter (.ref r)) (fun itv s₂ => ∃ it fp V P, itv = .ref it ∧ Src prog w s s₂ (fun v (k : Nat) => ∃ t, v = .int (k : Nat) t) (List.range n) it fp V P) E s₁ := by
  refine pyIterRange hr hn fun s₂ it g₂ ni st => ⟨it, [it], fun k v => ∃ t, v = .int (k : Nat) t, fun k h => IsRangeIter h it (k : Nat) ((n : Int) - (k : Nat)) 1, rfl, ?_⟩
  have D := iterRange (prog := prog) (w := w) (it := it) (n := n)
  refine ⟨by rw [List.length_range]; exact D, st, g.trans g₂, ?_, D.there st, ?_, fun k v hk hv => ?_⟩
  · cases q : s.heap.get? it with
    | none => rfl
    | some o => rw [g.keep _ _ q] at ni; cases ni
  · intro b hb q
    rw [List.mem_singleton.mp hb] at q
    exact D.there st q
  · simpa using hv
end
open PySem PySem.W PyProof.Rows PySem.Calls

theorem entry_set_eq' : entryFor table "set.__eq__" = some Builtin.«frozenset.__eq__» :=
  entryFor_alias (id' := "frozenset.__eq__") (by kernel_rfl) rfl (by decide +kernel) (by kernel_rfl)
theorem entry_set_lt' : entryFor table "set.__lt__" = some Builtin.«frozenset.__lt__» :=
  entryFor_alias (id' := "frozenset.__lt__") (by kernel_rfl) rfl (by decide +kernel) (by kernel_rfl)
theorem entry_set_gt' : entryFor table "set.__gt__" = some Builtin.«frozenset.__gt__» :=
  entryFor_alias (id' := "frozenset.__gt__") (by kernel_rfl) rfl (by decide +kernel) (by kernel_rfl)
theorem sub_set_set : isSubtype (.type "set") (.type "set") = pure true := by rw [isSubtype_type]; kernel_rfl
theorem sub_set_fro : isSubtype (.type "set") (.type "frozenset") = pure false := by rw [isSubtype_type]; kernel_rfl

section
variable {prog : Program} {w : World} {A : Around} {E : Value → Shared → Prop} {s : Shared} {a b : Addr} {S S' : Int → Bool} {n n' : Nat}

theorem sizeOf_ {Q : Nat → Shared → Prop} (hS : s.heap.SetOf (intKind prog w) a S n) (h : Q n s) : wpAny (model prog w) A (Builtin.Frozenset.sizeOf a) Q E s := by
  obtain ⟨o, es, ep, t, ho, _, hd, _, _, _, hf, hn⟩ := hS
  unfold Builtin.Frozenset.sizeOf
  refine wpAny_bind (wpAny_setEntries_of ho hd hf (wpAny_pure ?_))
  rw [hn]; exact h

theorem quietEq_ {v : Value} {Q : Bool → Shared → Prop} (hv : ∀ c, v ≠ .ref c) (h : Q true s) : wpAny (model prog w) A (Builtin.Frozenset.quietEq v) Q E s := by
  unfold Builtin.Frozenset.quietEq
  cases v <;> first | exact wpAny_pure h | exact absurd rfl (hv _)

theorem isAnySet_ {Q : Bool → Shared → Prop} (hb : s.heap.SetOf (intKind prog w) b S' n') (h : Q true s) : wpAny (model prog w) A (Builtin.Frozenset.isAnySet (.ref b)) Q E s := by
  unfold Builtin.Frozenset.isAnySet
  show wpAny _ _ (isInstance (.ref b) (.type "set") >>= fun c => _) _ _ _
  refine wpAny_bind (wpAny_isInstance (T := "set") (b := true) hb.typeIs sub_set_set ?_)
  exact wpAny_pure h

theorem ltSet {Q : Value → Shared → Prop} (ha : s.heap.SetOf (intKind prog w) a S n) (hb : s.heap.SetOf (intKind prog w) b S' n') (hn : n' ≤ n) (hu : A.units < cLine) (h : Q (.bool false) s) :
    wpAny (model prog w) A (compareOp .Lt (.ref a) (.ref b)) Q E s := by
  refine cmp_ofLt (wpAny_richCompare_same_room ha.typeIs hb.typeIs PySem.F.slot_set_lt (wpAny_call_entry PySem.F.slot_set_lt ha.typeIs entry_set_lt' ?_ (PySem.F.args_set_lt_2 _ _)) hu)
  refine wpAny_bind (wpAny_of_eq (a := (Value.ref a, Value.ref b)) rfl ?_)
  refine wpAny_bind (isAnySet_ hb ?_)
  rw [if_neg (by decide)]
  refine wpAny_bind (wpAny_pure (wpAny_bind (wpAny_pure (wpAny_bind (sizeOf_ ha (wpAny_bind (sizeOf_ hb ?_)))))))
  dsimp only
  rw [if_pos hn]
  exact wpAny_pure ⟨_, rfl, by simp, h⟩

theorem gtSet {Q : Value → Shared → Prop} (ha : s.heap.SetOf (intKind prog w) a S n) (hb : s.heap.SetOf (intKind prog w) b S' n') (hn : n ≤ n') (hu : A.units < cLine) (h : Q (.bool false) s) :
    wpAny (model prog w) A (compareOp .Gt (.ref a) (.ref b)) Q E s := by
  refine cmp_ofGt (wpAny_richCompare_same_room ha.typeIs hb.typeIs PySem.F.slot_set_gt (wpAny_call_entry PySem.F.slot_set_gt ha.typeIs entry_set_gt' ?_ (PySem.F.args_set_gt_2 _ _)) hu)
  refine wpAny_bind (wpAny_of_eq (a := (Value.ref a, Value.ref b)) rfl ?_)
  refine wpAny_bind (isAnySet_ hb ?_)
  rw [if_neg (by decide)]
  refine wpAny_bind (wpAny_pure (wpAny_bind (wpAny_pure (wpAny_bind (sizeOf_ ha (wpAny_bind (sizeOf_ hb ?_)))))))
  dsimp only
  rw [if_pos hn]
  exact wpAny_pure ⟨_, rfl, by simp, h⟩

theorem walkUnseen_ {o : Obj} {es : Array (Int × Value)} {ep : Nat} {t : SetTable} {Q : List (Int × Value) → Shared → Prop} (ho : s.heap.get? a = some o) (hd : o.data = .set es ep t) (hf : t.fits es.size = true) (hel : ElemsOf (intKind prog w) es.toList)
    (hb : s.heap.SetOf (intKind prog w) b S' n') (h : Q es.toList s) : wpAny (model prog w) A (Builtin.Frozenset.walkUnseen a b) Q E s := by
  obtain ⟨o', es', ep', t', ho', _, hd', hel', _, _, hf', _⟩ := hb
  unfold Builtin.Frozenset.walkUnseen
  refine wpAny_bind (wpAny_setEntries_of ho hd hf (wpAny_bind (wpAny_setEntries_of ho' hd' hf' (wpAny_bind ?_))))
  refine wpAny_forIn_list _ (fun l c s₁ => s₁ = s ∧ c.1 = none ∧ ∀ e ∈ l, ∀ r, e.2 ≠ .ref r) _ ?_ ?_ _ _ ⟨rfl, rfl, ?_⟩
  · rintro ⟨hh, x⟩ rest c s₁ ⟨rfl, hc, hl⟩
    refine wpAny_bind (quietEq_ (fun r => hl _ (.head _) r) ?_)
    rw [if_neg (by decide)]
    exact wpAny_pure ⟨rfl, rfl, fun e he => hl e (.tail _ he)⟩
  · rintro c s₁ ⟨rfl, hc, _⟩
    dsimp only
    rw [hc]
    exact wpAny_pure h
  · intro e he r q
    have : ∃ k, (intKind prog w).is k e.2 = true := by
      rcases List.mem_append.mp he with he | he
      · obtain ⟨⟨k, hk, _⟩, _⟩ := hel e he; exact ⟨k, hk⟩
      · obtain ⟨⟨k, hk, _⟩, _⟩ := hel' e he; exact ⟨k, hk⟩
    obtain ⟨k, hk⟩ := this
    rw [q] at hk
    simp [intKind, Value.isInt] at hk

theorem subsetOf_ {what : String} {Q : Bool → Shared → Prop} (ha : s.heap.SetOf (intKind prog w) a S n) (hb : s.heap.SetOf (intKind prog w) b S' n') (hn : n ≤ n') (r : Bool) (hr : r = true ↔ ∀ k, S k = true → S' k = true) (h : Q r s) :
    wpAny (model prog w) A (Builtin.Frozenset.subsetOf what a b) Q E s := by
  obtain ⟨o, es, ep, t, ho, hx, hd, hel, hmem, hlt, hf, hsz⟩ := id ha
  unfold Builtin.Frozenset.subsetOf
  refine wpAny_bind (sizeOf_ ha (wpAny_bind (sizeOf_ hb ?_)))
  rw [if_neg (by omega)]
  refine wpAny_bind (wpAny_setEpoch_of ho hd hf (wpAny_bind (walkUnseen_ ho hd hf hel hb (wpAny_bind ?_))))
  refine wpAny_forIn_list _ (fun l c s₁ => s₁ = s ∧ c.1 = none ∧ (∀ e ∈ l, e ∈ es.toList) ∧ ∀ e ∈ es.toList, e ∈ l ∨ ∀ k, (intKind prog w).is k e.2 = true → S' k = true) _ ?_ ?_ _ _ ⟨rfl, rfl, fun _ q => q, fun e q => .inl q⟩
  · rintro ⟨hh, x⟩ rest c s₁ ⟨rfl, hc, hl, hl'⟩
    obtain ⟨⟨k, hk, hhash⟩, hsc⟩ := hel _ (hl _ (.head _))
    have hhash' : hh = (intKind prog w).hash k := hhash
    subst hhash'
    refine wpAny_bind (wpAny_holding (wpAny_setFind_of hk hsc hb fun r' hr' => ?_))
    cases hS : S' k with
    | false =>
      rw [hS] at hr'
      have : r'.isNone = true := by cases r' <;> simp_all
      rw [if_pos this]
      refine wpAny_pure ?_
      dsimp only
      have : r = false := by
        cases hq : r with
        | false => rfl
        | true =>
          have := hr.mp hq k ((hmem k).mpr ⟨_, hl _ (.head _), hk⟩)
          rw [hS] at this; cases this
      rw [this] at h
      exact wpAny_pure h
    | true =>
      rw [hS] at hr'
      have : r'.isNone = false := by cases r' <;> simp_all
      rw [if_neg (by rw [this]; decide)]
      unfold Builtin.Frozenset.unchanged
      refine wpAny_bind (wpAny_bind (wpAny_setEpoch_of ho hd hf ?_))
      rw [if_neg (by simp)]
      refine wpAny_pure (wpAny_pure ⟨rfl, rfl, fun e he => hl e (.tail _ he), fun e he => ?_⟩)
      rcases hl' e he with q | q
      · rcases List.mem_cons.mp q with rfl | q
        · exact .inr fun k' hk' => by rw [(intKind prog w).inj _ _ _ hk' hk]; exact hS
        · exact .inl q
      · exact .inr q
  · rintro c s₁ ⟨rfl, hc, _, hl⟩
    dsimp only
    rw [hc]
    have : r = true := hr.mpr fun k hk => by
      obtain ⟨e, he, hke⟩ := (hmem k).mp hk
      rcases hl e he with q | q
      · cases q
      · exact q k hke
    rw [this] at h
    exact wpAny_pure h

theorem rcSet {r : Bool} {Q : Value → Shared → Prop} (ha : s.heap.SetOf (intKind prog w) a S n) (hb : s.heap.SetOf (intKind prog w) b S' n) (hr : r = true ↔ ∀ k, S k = true → S' k = true) (hu : A.units < cLine) (h : Q (.bool r) s) :
    wpAny (model prog w) A (richCompare .Eq (.ref a) (.ref b)) Q E s := by
  refine wpAny_richCompare_same_room ha.typeIs hb.typeIs PySem.F.slot_set_eq (wpAny_call_entry PySem.F.slot_set_eq ha.typeIs entry_set_eq' ?_ (PySem.F.args_set_eq_2 _ _)) hu
  refine wpAny_bind (wpAny_of_eq (a := (Value.ref a, Value.ref b)) rfl ?_)
  refine wpAny_bind (isAnySet_ hb ?_)
  rw [if_neg (by decide)]
  refine wpAny_bind (wpAny_pure (wpAny_bind (wpAny_pure (wpAny_bind (sizeOf_ ha (wpAny_bind (sizeOf_ hb ?_)))))))
  dsimp only
  rw [if_neg (by simp)]
  refine wpAny_bind (wpAny_bind ?_)
  show wpAny _ _ (isInstance (.ref a) (.type "frozenset") >>= fun c => _) _ _ _
  refine wpAny_bind (wpAny_isInstance (T := "set") (b := false) ha.typeIs sub_set_fro ?_)
  refine wpAny_pure ?_
  rw [if_neg (by decide)]
  refine subsetOf_ ha hb (Nat.le_refl _) r hr ?_
  exact wpAny_pure ⟨_, rfl, by simp, h⟩
end

theorem setAny {prog prog' : Program} {w w' : World} {h : Heap} {a : Addr} {S : Int → Bool} {n : Nat} (x : h.SetOf (intKind prog w) a S n) : h.SetOf (intKind prog' w') a S n := x

open PySem.SeqAt in
theorem eqAtSet {A : Around} {s : Shared} {a b : Addr} {S S' : Int → Bool} {n : Nat} {prog : Program} {w : World} {r : Bool} (ha : s.heap.SetOf (intKind prog w) a S n) (hb : s.heap.SetOf (intKind prog w) b S' n) (hr : r = true ↔ ∀ k, S k = true → S' k = true) (hu : A.units < cLine) :
    EqAt A s (.ref a) (.ref b) r := by
  by_cases hab : a = b
  · subst hab
    have e : S = S' := by
      obtain ⟨o, es, ep, t, ho, hx, hd, hel, hmem, hlt, hf, hsz⟩ := ha
      obtain ⟨o', es', ep', t', ho', hx', hd', hel', hmem', hlt', hf', hsz'⟩ := hb
      rw [ho] at ho'; cases ho'; rw [hd] at hd'; cases hd'
      funext k
      have : S k = true ↔ S' k = true := (hmem k).trans (hmem' k).symm
      cases h1 : S k <;> cases h2 : S' k <;> simp_all
    have : r = true := hr.mpr fun k hk => by rw [← e]; exact hk
    rw [this]; exact EqAt.same _
  · exact EqAt.of_refs hab fun prog' w' E Q hq => rcSet (setAny (prog' := prog') (w' := w') ha) (setAny hb) hr hu hq
open PySem PySem.W PyProof.Rows PySem.Calls

section
variable {prog : Program} {w : World} {A : Around} {E : Value → Shared → Prop} {s : Shared} {env : Env}

theorem inMain_ {Q : Bool → Shared → Prop} (hc : ∃ c o vs, env.code = .ref c ∧ s.heap.get? c = some o ∧ o.data = .fields vs) (h : ∀ b, Q b s) : wpAny (model prog w) A (inMainModule env) Q E s := by
  obtain ⟨c, o, vs, e, ho, hd⟩ := hc
  unfold inMainModule
  try dsimp only
  rw [e]
  split
  · exact wpAny_pure (h _)
  · refine wpAny_bind (wpAny_fieldsOf ho hd ?_)
    split
    · exact wpAny_bind (wpAny_askSetting (wpAny_pure (h _)))
    · exact wpAny_pure (h _)

theorem setAdd_ {a : Addr} {S : Int → Bool} {n : Nat} {k : Int} {t : Tok} {Q : Bool → Shared → Prop} (hS : s.heap.SetOf (intKind prog w) a S n) (hb : n + 1 < scanBound)
    (h : ∀ s', ExL a s s' → s'.heap.SetOf (intKind prog w) a (fun k' => S k' || decide (k' = k)) (if S k then n else n + 1) → Q (!S k) s') : wpAny (model prog w) A (setAdd a (.int k t)) Q E s := by
  unfold setAdd
  refine wpAny_holding (wpAny_bind ((intKind prog w).pyHash (k := k) (by simp [intKind, Value.isInt]) ?_))
  refine wpAny_setAddHashed_of (s := { s with toks := s.toks + 1 }) (by simp [intKind, Value.isInt]) rfl hS hb fun h' hsb hS' => h _ ⟨fun b o n e => (hsb.2 b n).trans e, rfl, rfl⟩ hS'

/-- «{a, b}» of two ints -/
theorem setLit2 {e1 e2 : Expr} {pos : Pos} {n1 n2 : Int} {Q : Value → Shared → Prop} (hc : ∃ c o vs, env.code = .ref c ∧ s.heap.get? c = some o ∧ o.data = .fields vs) (hne : n1 ≠ n2)
    (h1 : ∀ s₁, Grow s s₁ → wpAny (model prog w) A (eval e1 env) (fun v s₂ => Grow s₁ s₂ ∧ ∃ t, v = .int n1 t) E s₁)
    (h2 : ∀ s₁, Grow s s₁ → wpAny (model prog w) A (eval e2 env) (fun v s₂ => Grow s₁ s₂ ∧ ∃ t, v = .int n2 t) E s₁)
    (hQ : ∀ s' D, Grow s s' → s.heap.get? D = none → s'.heap.SetOf (intKind prog w) D (fun k => decide (k = n1) || decide (k = n2)) 2 → Q (.ref D) s')
    (hp : [e1, e2].all kdsPlain = true := by rfl) :
    wpAny (model prog w) A (eval (.Set [e1, e2] 0 pos) env) Q E s := by
  rw [arm_eval_Set]
  refine wpAny_bind (wpAny_standAt ?_)
  refine wpAny_bind (inMain_ hc fun b => ?_)
  rw [kds_star _ hp, List.map_map]
  refine kds_core (ts := (evalEach [e1, e2] env).map fun t => do let v ← t; standAt pos; pure v) rfl ?_ ?_ ?_ fun led => ?_
  · refine List.findIdx?_eq_none_iff.mpr fun x hx => ?_
    obtain ⟨t, _, rfl⟩ := List.mem_map.mp hx
    rfl
  · rw [List.length_map, kds_len]; simp
  · rw [List.map_map]; try rfl
  · refine kds_all pos [e1, e2] _ _ ?_
    have g0 : Grow s { s with heap := s.heap.push { cls := .type "set", dict := none, data := .set #[] 0 (.fresh 0 0 led) } } := ⟨fun _ _ e => Heap.get?_push_of_some _ e, rfl, rfl⟩
    have S0 : (s.heap.push { cls := .type "set", dict := none, data := .set #[] 0 (.fresh 0 0 led) }).SetOf (intKind prog w) s.heap.objs.size (fun _ => false) 0 :=
      ⟨_, #[], 0, _, Heap.get?_push_size _ rfl, ⟨rfl, rfl, rfl⟩, rfl, fun e he => by simp at he, fun k => by simp, by decide, by rfl, rfl⟩
    refine wpAny_mono (h1 _ g0) (fun v s₁ ⟨g1, t1, e1⟩ => wpAny_mono (h2 s₁ (g0.trans g1)) (fun u s₂ ⟨g2, t2, e2⟩ => ?_) fun _ _ q => q) fun _ _ q => q
    subst e1 e2
    have keepSet : ∀ {h h' : Heap} {a : Addr} {S : Int → Bool} {n : Nat}, h.SetOf (intKind prog w) a S n → (∀ b o, h.get? b = some o → h'.get? b = some o) → h'.SetOf (intKind prog w) a S n := by
      rintro h h' a S n ⟨o, es, ep, t, ho, r⟩ k
      exact ⟨o, es, ep, t, k _ _ ho, r⟩
    have S2 := keepSet (keepSet S0 g1.keep) g2.keep
    refine kds_fill_cons (setAdd_ S2 (by decide) fun s₃ x₃ S3 => kds_fill_cons (setAdd_ S3 (by decide) fun s₄ x₄ S4 => kds_fill_nil rfl ?_))
    have nD : s.heap.get? s.heap.objs.size = none := Heap.get?_none_of_le (Nat.le_refl _)
    have g := g0.trans (g1.trans g2)
    refine hQ s₄ _ ⟨fun b o e => ?_, x₄.os.trans (x₃.os.trans g.os), x₄.gens.trans (x₃.gens.trans g.gens)⟩ nD ?_
    · have nb : b ≠ s.heap.objs.size := fun q => by rw [q, nD] at e; cases e
      exact x₄.keep b o nb (x₃.keep b o nb (g.keep b o e))
    · have e : (if (false || decide (n2 = n1)) = true then (if (false : Bool) = true then 0 else 0 + 1) else (if (false : Bool) = true then 0 else 0 + 1) + 1) = 2 := by
        rw [if_neg (by simpa using fun q => hne q.symm)]; rfl
      have f : (fun k' : Int => (fun k' => (false || decide (k' = n1))) k' || decide (k' = n2)) = fun k => decide (k = n1) || decide (k = n2) := by funext k; simp
      rw [e, f] at S4
      exact S4
end
open PySem PySem.W PyProof.Rows PySem.Calls

/-- e is the int n at s -/
def EvI (prog : Program) (w : World) (A : Around) (env : Env) (e : Expr) (n : Int) (s : Shared) : Prop := wpAny (model prog w) A (eval e env) (fun v s' => Grow s s' ∧ ∃ t, v = .int n t) No s

section
variable {prog : Program} {w : World} {A : Around} {E : Value → Shared → Prop} {s : Shared} {env : Env} {e e1 e2 : Expr} {a b n : Int} {pos : Pos} {m : Str → Option Value}

theorem EvI.use {Q : Value → Shared → Prop} (h : EvI prog w A env e n s) (hQ : ∀ s' t, Grow s s' → Q (.int n t) s') : wpAny (model prog w) A (eval e env) Q E s :=
  wpAny_mono h (fun v s' ⟨g, t, q⟩ => by rw [q]; exact hQ s' t g) fun _ _ q => q.elim
theorem EvI.const {k : Nat} : EvI prog w A env (.Constant (.int n) k pos) n s := wpAny_Constant_int ⟨Grow.toks _ _, _, rfl⟩
theorem EvI.name {x : Str} {t : Tok} (hn : s.heap.Ns env.locals m) (hv : m x = some (.int n t))
    (hk : env.scope.kind = .function := by rfl) (hl : env.kindOf x = some .local := by rfl) (hd : (x == ("__debug__" : Str)) = false := by decide) : EvI prog w A env (.Name x pos) n s :=
  ldE hn hv ⟨.refl _, t, rfl⟩ hk hl hd
theorem EvI.neg (h : EvI prog w A env e n s) : EvI prog w A env (.UnaryOp .USub e pos) (-n) s :=
  wpAny_UnaryOp (h.use fun s' t g => PySem.P.neg_int ⟨g.trans (Grow.toks _ _), _, rfl⟩)
theorem EvI.sub (h1 : EvI prog w A env e1 a s) (h2 : ∀ s', Grow s s' → EvI prog w A env e2 b s') : EvI prog w A env (.BinOp e1 .Sub e2 pos) (a - b) s :=
  wpAny_BinOp (h1.use fun s₁ t g => (h2 s₁ g).use fun s₂ u g' => PySem.P.sub_int ⟨(g.trans g').trans (Grow.toks _ _), _, rfl⟩)
theorem EvI.add (h1 : EvI prog w A env e1 a s) (h2 : ∀ s', Grow s s' → EvI prog w A env e2 b s') : EvI prog w A env (.BinOp e1 .Add e2 pos) (a + b) s :=
  wpAny_BinOp (h1.use fun s₁ t g => (h2 s₁ g).use fun s₂ u g' => PySem.P.add_int ⟨(g.trans g').trans (Grow.toks _ _), _, rfl⟩)
theorem EvI.mod {k : Nat} {p : Pos} (h1 : EvI prog w A env e1 a s) (hb : b ≠ 0) : EvI prog w A env (.BinOp e1 .Mod (.Constant (.int b) k p) pos) (a.fmod b) s :=
  wpAny_BinOp (h1.use fun s₁ t g => (EvI.const (s := s₁)).use fun s₂ u g' => mod_int' hb ⟨(g.trans g').trans (Grow.toks _ _), _, rfl⟩)
theorem EvI.div {k : Nat} {p : Pos} (h1 : EvI prog w A env e1 a s) (hb : b ≠ 0) (hs : b.natAbs < 1073741824) : EvI prog w A env (.BinOp e1 .FloorDiv (.Constant (.int b) k p) pos) (a.fdiv b) s :=
  wpAny_BinOp (h1.use fun s₁ t g => (EvI.const (s := s₁)).use fun s₂ u g' => floordiv_int hb ⟨(g.trans g').trans (Grow.toks _ _), _, rfl⟩ (.inl (PyProof.noPylong_small hs)))
theorem EvI.max {x : Str} {p p1 : Pos} (hh : A.handled = none) (hb : wpAny (model prog w) A (eval (.Name x p) env) (fun v s' => v = .builtin "max" ∧ s' = s) No s)
    (h1 : EvI prog w A env e1 a s) (h2 : ∀ s', Grow s s' → EvI prog w A env e2 b s')
    (hc : eval (.Call (.Name x p) [e1, e2] [] p1) env = (do callWith p1 (← eval (.Name x p) env) [] (backTo p1 (starEach [e1, e2] env)) (backToKw p1 (keywordEach [] env))) := by rfl)
    (q1 : starEach [e1, e2] env = (false, eval e1 env) :: starEach [e2] env := by rfl) (q2 : starEach [e2] env = (false, eval e2 env) :: starEach [] env := by rfl) :
    EvI prog w A env (.Call (.Name x p) [e1, e2] [] p1) (if b > a then b else a) s := by
  refine Call_ (wpAny_mono hb (fun v s' ⟨q, q'⟩ => ?_) fun _ _ q => q) hc
  subst q q'
  refine callWith_builtin1 (spliced_more (h1.use fun s₁ t g => spliced_more ((h2 s₁ g).use fun s₂ u g' => spliced_none ?_) q2) q1) q1 (by rw [q2]; rfl)
  refine max_two_ints hh fun h' tk k => ?_
  have g2 : Grow s' { s₂ with heap := h', toks := tk } := ⟨fun c o e => k c o (g'.keep c o (g.keep c o e)), g'.os.trans g.os, g'.gens.trans g.gens⟩
  by_cases hc : b > a
  · rw [if_pos hc, if_pos hc]; exact ⟨g2, _, rfl⟩
  · rw [if_neg hc, if_neg hc]; exact ⟨g2, _, rfl⟩
end
open PySem PySem.W PyProof.Rows PySem.Calls

theorem All2.mono {α β : Type} {R R' : α → β → Prop} {as : List α} {bs : List β} (h : All2 R as bs) (k : ∀ a b, a ∈ as → R a b → R' a b) : All2 R' as bs := by
  induction h with
  | nil => exact .nil
  | cons r _ ih => exact .cons (k _ _ (.head _) r) (ih fun a b ha => k a b (.tail _ ha))
theorem All2.snoc {α β : Type} {R : α → β → Prop} {as : List α} {bs : List β} {b : β} (h : All2 R as (bs ++ [b])) : ∃ as' a, as = as' ++ [a] ∧ All2 R as' bs ∧ R a b := by
  induction bs generalizing as with
  | nil =>
    cases h with
    | cons r q => cases q; exact ⟨[], _, rfl, .nil, r⟩
  | cons c bs ih =>
    cases h with
    | cons r q =>
      obtain ⟨as', a, rfl, h1, h2⟩ := ih q
      exact ⟨_ :: as', a, rfl, .cons r h1, h2⟩

theorem flat_sub {γ : Type} {X Y : List (List γ)} (h : X.Sublist Y) : X.flatten.length ≤ Y.flatten.length := by
  induction h with
  | slnil => exact Nat.le_refl _
  | cons a _ ih => simp only [List.flatten_cons, List.length_append]; omega
  | cons_cons a _ ih => simp only [List.flatten_cons, List.length_append]; omega
theorem flat_le {γ : Type} (X : List (List γ)) (p : List γ → Bool) (k : Nat) (hk : k < X.length) : ((X.take k).filter p).flatten.length + X[k].length ≤ X.flatten.length := by
  have e : (X.take k ++ [X[k]]).Sublist X := by
    rw [← List.take_succ_eq_append_getElem hk]; exact List.take_sublist _ _
  have e' : ((X.take k).filter p ++ [X[k]]).Sublist X := ((List.filter_sublist).append (List.Sublist.refl _)).trans e
  have := flat_sub e'
  simpa using this

section
variable {prog : Program} {w : World} {A : Around} {E : Value → Shared → Prop} {s : Shared} {env : Env} {γ : Type}

/-- rows: lists that stand in h -/
def RL (RB : Value → γ → Prop) (h : Heap) (v : Value) (a : List γ) : Prop := ∃ c vs n, v = .ref c ∧ h.get? c = some (listOf vs.toArray n) ∧ All2 RB vs a

/-- the walk of «[y for x in .. if .. for y in x]» -/
theorem listComp2U {RB : Value → γ → Prop} {X : List (List γ)} {p : List γ → Bool} {iter : Expr} {x y : Str} {px py q1 q2 : Pos} {ifs : List Expr} {scope : Scope} {pos ip : Pos} {cl : List (Str × Addr)} {use : Option (Value → Sem Unit)} {Q : Value → Shared → Prop}
    (hs : ∀ z, foldedSetIterable iter env z = pure z) (hs' : ∀ Lc z, foldedSetIterable (.Name x q2) (compEnv scope env Lc cl) z = pure z) (hclos : closureFor scope env = pure cl) (hcell : ∀ y ∈ scope.names, y.2 ≠ .cell) (hkind : scope.kind = .function)
    (hnames : ∀ y ∈ scope.names, y.2 = .local → (compScope scope env).names.lookup y.1 = some .local) (hx : (compScope scope env).names.lookup x = some .local) (hy : (compScope scope env).names.lookup y = some .local)
    (dx : (x == ("__debug__" : Str)) = false) (dy : (y == ("__debug__" : Str)) = false)
    (hh : A.handled = none) (plain : ∀ u b, RB u b → rf u = [])
    (hsrc : wpAny (model prog w) A (eval iter env) (fun y s₁ => wpAny (model prog w) A (pyIter y) (fun itv s₂ => ∃ it fp V P, itv = .ref it ∧ Src prog w s s₂ (RL RB s.heap) X it fp V P) E s₁) E s) (hz : X.flatten.length < 1000000)
    (hcond : ∀ v a s₁ Lc m, Grow s s₁ → RL RB s.heap v a → s₁.heap.Ns Lc m → m x = some v → wpAny (model prog w) A (conds ifs (compEnv scope env Lc cl)) (fun ok s₂ => Grow s₁ s₂ ∧ ok = p a) No s₁)
    (hQ : ∀ s' Lc D us j, Grow s s' → s.heap.get? D = none → s.heap.get? Lc = none → Lc ≠ D → (∃ m, s'.heap.Ns Lc m) → s'.heap.get? D = some (listOf us.toArray j) → All2 RB us (X.filter p).flatten → UseOk prog w A E use Q Lc (.ref D) s') :
    wpAny (model prog w) A (comprehension (.ListComp (.Name y q1) [⟨.Name x px, iter, ifs, 0⟩, ⟨.Name y py, .Name x q2, [], 0⟩] scope pos) scope env ip (newList []) false (eval iter env) use) Q E s := by
  refine comprehension_ (g := ⟨.Name x px, iter, ifs, 0⟩) (gs := [⟨.Name y py, .Name x q2, [], 0⟩]) rfl hs hclos hcell hkind hnames (wpAny_mono hsrc (fun yv s₁ h₁ => wpAny_mono h₁ (fun itv s₂ h₂ => ?_) fun _ _ q => q) fun _ _ q => q)
  obtain ⟨it, fp, V, P, rfl, S⟩ := h₂
  refine newList_ fun s₃ D g₃ gD nD => ?_
  intro s₄ Lc g₄ nL hns
  have keepS : ∀ {a : Addr}, s₂.heap.get? a = none → s.heap.get? a = none := fun {a} q => by
    cases e : s.heap.get? a with
    | none => rfl
    | some o => rw [S.g.keep _ _ e] at q; cases q
  have nL₂ : s₂.heap.get? Lc = none := by
    cases e : s₂.heap.get? Lc with
    | none => rfl
    | some o => rw [g₃.keep _ _ e] at nL; cases nL
  have LD : Lc ≠ D := fun q => by rw [q, gD] at nL; cases nL
  have nDs := keepS nD
  have nLs := keepS nL₂
  have fD : D ∉ fp := fun q => S.fp _ q nD
  have fL : Lc ∉ fp := fun q => S.fp _ q nL₂
  have iD : it ≠ D := fun q => fD (q ▸ S.D.mem)
  have iL : it ≠ Lc := fun q => fL (q ▸ S.D.mem)
  have hg : ([⟨.Name x px, iter, ifs, 0⟩, ⟨.Name y py, .Name x q2, [], 0⟩] : List Comprehension)[0]? = some ⟨.Name x px, iter, ifs, 0⟩ := rfl
  have hg1 : ([⟨.Name x px, iter, ifs, 0⟩, ⟨.Name y py, .Name x q2, [], 0⟩] : List Comprehension)[1]? = some ⟨.Name y py, .Name x q2, [], 0⟩ := rfl
  have gs₄ : Grow s s₄ := S.g.trans (g₃.trans g₄)
  have fp₄ : ∀ b ∈ fp, s₄.heap.get? b ≠ none := fun b hb q => by
    cases e : s₂.heap.get? b with
    | none => exact S.fp b hb e
    | some o => rw [g₄.keep _ _ (g₃.keep _ _ e)] at q; cases q
  refine compStart_ hg rfl S.D (S.D.keep S.p0 fun b _ o e => g₄.keep b o (g₃.keep b o e)) ?_
  refine compInner hg hg1 (hs' Lc) S.D hh (S.D.keep S.p0 fun b _ o e => g₄.keep b o (g₃.keep b o e))
    (fun k s₁ => (∀ b o, b ≠ it → b ≠ Lc → b ≠ D → s₄.heap.get? b = some o → s₁.heap.get? b = some o) ∧ s₁.os = s₄.os ∧ s₁.gens = s₄.gens ∧ (∃ m, s₁.heap.Ns Lc m) ∧
      ∃ us j, s₁.heap.get? D = some (listOf us.toArray j) ∧ All2 RB us ((X.take k).filter p).flatten) ?_ ?_ ?_ ?_
  · rintro k s₁ s₂ ⟨h1, h2, h3, ⟨m, o, es, ep, ho, r⟩, us, j, h5, h6⟩ g
    exact ⟨fun b o n1 n2 n3 e => g.keep b o n1 (h1 b o n1 n2 n3 e), g.os.trans h2, g.gens.trans h3, ⟨m, o, es, ep, g.keep _ _ (Ne.symm iL) ho, r⟩, us, j, g.keep _ _ (Ne.symm iD) h5, h6⟩
  · exact ⟨fun b o _ _ _ e => e, rfl, rfl, ⟨_, hns⟩, [], 0, g₄.keep _ _ gD, by simpa using All2.nil⟩
  · rintro k v s₁ hkn hv hp ⟨h1, h2, h3, ⟨m, h4⟩, us, j, h5, h6⟩
    have ra := S.ra k v hkn hv
    have git := S.D.there hp
    have tk : X.take (k + 1) = X.take k ++ [X[k]] := by rw [List.take_succ_eq_append_getElem hkn]
    refine stE (env := compEnv scope env Lc cl) h4 (fun s₂ hn₂ g₂ => ?_) hkind hx
    have g₂' : ExL Lc s₁ s₂ := g₂
    have gs₂ : Grow s s₂ := by
      refine ⟨fun b o e => g₂'.keep b o (fun q => by rw [q, nLs] at e; cases e) (h1 b o (fun q => by rw [q, S.ni] at e; cases e) (fun q => by rw [q, nLs] at e; cases e) (fun q => by rw [q, nDs] at e; cases e) (gs₄.keep b o e)), ?_, ?_⟩
      · exact g₂.os.trans (h2.trans gs₄.os)
      · exact g₂.gens.trans (h3.trans gs₄.gens)
    refine wpAny_mono (hcond v X[k] s₂ Lc _ gs₂ ra hn₂ upd_same) (fun ok s₃ h₃ => ?_) fun _ _ q => q
    obtain ⟨g₃', rfl⟩ := h₃
    have e₁₃ : ExL Lc s₁ s₃ := g₂'.trans g₃'.exL
    cases hpk : p X[k] with
    | false =>
      rw [if_neg (by decide)]
      refine ⟨fun b hb o e => e₁₃.keep b o (fun q => fL (q ▸ hb)) e, fun b o n1 n2 n3 e => e₁₃.keep b o n2 (h1 b o n1 n2 n3 e), e₁₃.os.trans h2, e₁₃.gens.trans h3, ⟨_, hn₂.keeps g₃'.keep⟩, us, j, e₁₃.keep _ _ (Ne.symm LD) h5, ?_⟩
      rw [tk, List.filter_append]
      have : [X[k]].filter p = [] := by simp [hpk]
      rw [this, List.append_nil]; exact h6
    | true =>
      rw [if_pos rfl]
      have hn₃ := hn₂.keeps g₃'.keep
      refine ldE (env := compEnv scope env Lc cl) hn₃ upd_same ?_ hkind hx dx
      obtain ⟨c, vs, n, rfl, hc, hav⟩ := ra
      have gs₃ := gs₂.trans g₃'
      have hc₃ := gs₃.keep _ _ hc
      refine pyIterList hc₃ fun s₅ it' g₅ ni' nil' st' => ?_
      have D' := iterList (prog := prog) (w := w) (vs := vs) nil'
      refine compStart_ hg1 rfl D' st' ?_
      have el := hav.length
      have lt := flat_le X p k hkn
      have h5' := g₅.keep _ _ (e₁₃.keep _ _ (Ne.symm LD) h5)
      have hcD : c ≠ D := fun q => by rw [q, nDs] at hc; cases hc
      have hcL : c ≠ Lc := fun q => by rw [q, nLs] at hc; cases hc
      have iD' : it' ≠ D := fun q => by rw [q, e₁₃.keep _ _ (Ne.symm LD) h5] at ni'; cases ni'
      have iL' : it' ≠ Lc := fun q => by
        obtain ⟨o, _, _, ho, _⟩ := hn₃
        rw [q] at ni'; rw [show s₃.heap.get? Lc = some o from ho] at ni'; cases ni'
      have ni : s.heap.get? it' = none := by
        cases q : s.heap.get? it' with
        | none => rfl
        | some o => rw [gs₃.keep _ _ q] at ni'; cases ni'
      have S' : Src prog w s s₅ RB X[k] it' [it', c] (fun k v => vs[k]? = some v) (fun k h => h.IsListIter it' c k ∧ h.IsList c vs.toArray) := by
        refine ⟨by rw [← el]; exact D', st', gs₃.trans g₅, ni, D'.there st', ?_, fun i u hi hu => ?_⟩
        · intro b hb q
          rcases List.mem_cons.mp hb with rfl | hb
          · exact D'.there st' q
          · rw [List.mem_singleton.mp hb, g₅.keep _ _ hc₃] at q; cases q
        · have hk' : i < vs.length := by omega
          have : u = vs[i] := by rw [List.getElem?_eq_getElem hk'] at hu; exact (Option.some.inj hu).symm
          rw [this]
          exact hav.get i hk' hi
      refine compWalk (s := s) (s₂ := s₅) (s₃ := s₅) (s₄ := s₅) (us₀ := us) (RO := fun u b _ => RB u b) (X := X[k]) (p := fun _ => true) (f := fun b => b) (Lc := Lc) hg1 rfl hh (fun _ _ _ _ r _ => r) S' (.refl _) nDs nLs ?_ ?_ LD rfl ⟨_, hn₃.keeps g₅.keep⟩ ⟨j, h5'⟩ h6 ?_ ?_ hkind hy ?_ ?_ ?_
      · intro q
        rcases List.mem_cons.mp q with q | q
        · exact iD' q.symm
        · exact hcD (List.mem_singleton.mp q).symm
      · intro q
        rcases List.mem_cons.mp q with q | q
        · exact iL' q.symm
        · exact hcL (List.mem_singleton.mp q).symm
      · intro u hu c hc
        have : ∀ {us : List Value} {bs : List γ}, All2 RB us bs → ∀ u ∈ us, rf u = [] := by
          intro us bs h
          induction h with
          | nil => intro u hu; cases hu
          | cons r _ ih =>
            intro u hu
            rcases List.mem_cons.mp hu with rfl | hu
            · exact plain _ _ r
            · exact ih u hu
        rw [this h6 u hu] at hc; cases hc
      · rw [h6.length]; omega
      · intro v a s₁ m' _ _ _ _
        exact conds_nil ⟨.refl _, rfl⟩
      · intro v a s₁ m' g' rv _ hn' hv'
        refine ldE (env := compEnv scope env Lc cl) hn' hv' ⟨.refl _, rv, fun c hc => ?_⟩ hkind hy dy
        rw [plain _ _ rv] at hc; cases hc
      · intro s' us' j' k1 k2 k3 hm hD ha _ _
        have g15 : ∀ b o, b ≠ Lc → s₁.heap.get? b = some o → s₅.heap.get? b = some o := fun b o n e => g₅.keep b o (e₁₃.keep b o n e)
        have ni1 : ∀ b o, b ≠ Lc → s₁.heap.get? b = some o → b ≠ it' := fun b o n e q => by
          have := e₁₃.keep b o n e
          rw [q, ni'] at this; cases this
        refine ⟨⟨_, rfl⟩, fun b hb o e => ?_, fun b o n1 n2 n3 e => ?_, k2.trans (g₅.os.trans (e₁₃.os.trans h2)), k3.trans (g₅.gens.trans (e₁₃.gens.trans h3)), hm, us', j', hD, ?_⟩
        · have nb : b ≠ Lc := fun q => fL (q ▸ hb)
          exact k1 b o (ni1 b o nb e) nb (fun q => fD (q ▸ hb)) (g15 b o nb e)
        · have e1 := h1 b o n1 n2 n3 e
          exact k1 b o (ni1 b o n2 e1) n2 n3 (g15 b o n2 e1)
        · rw [tk, List.filter_append, List.flatten_append]
          have q1 : [X[k]].filter p = [X[k]] := by simp [hpk]
          rw [q1]
          have q2 : (X[k].filter fun _ => true).map (fun b => b) = [X[k]].flatten := by simp
          rw [q2] at ha; exact ha
  · rintro s' ⟨h1, h2, h3, hm, us, j, h5, h6⟩
    rw [List.take_length] at h6
    have gs : Grow s s' := ⟨fun b o e => h1 b o (fun q => by rw [q, S.ni] at e; cases e) (fun q => by rw [q, nLs] at e; cases e) (fun q => by rw [q, nDs] at e; cases e) (gs₄.keep b o e), h2.trans gs₄.os, h3.trans gs₄.gens⟩
    exact ⟨⟨_, rfl⟩, hm, hQ s' Lc D us j gs nDs nLs LD hm h5 h6⟩

/-- «[y for x in .. if .. for y in x]» as a value -/
theorem listComp2 {RB : Value → γ → Prop} {X : List (List γ)} {p : List γ → Bool} {iter : Expr} {x y : Str} {px py q1 q2 : Pos} {ifs : List Expr} {scope : Scope} {pos : Pos} {cl : List (Str × Addr)} {Q : Value → Shared → Prop}
    (hh : A.handled = none) (plain : ∀ u b, RB u b → rf u = [])
    (hsrc : wpAny (model prog w) A (eval iter env) (fun y s₁ => wpAny (model prog w) A (pyIter y) (fun itv s₂ => ∃ it fp V P, itv = .ref it ∧ Src prog w s s₂ (RL RB s.heap) X it fp V P) E s₁) E s) (hz : X.flatten.length < 1000000)
    (hcond : ∀ v a s₁ Lc m, Grow s s₁ → RL RB s.heap v a → s₁.heap.Ns Lc m → m x = some v → wpAny (model prog w) A (conds ifs (compEnv scope env Lc cl)) (fun ok s₂ => Grow s₁ s₂ ∧ ok = p a) No s₁)
    (hQ : ∀ s' D us j, Grow s s' → s.heap.get? D = none → s'.heap.get? D = some (listOf us.toArray j) → All2 RB us (X.filter p).flatten → Q (.ref D) s')
    (hs : ∀ z, foldedSetIterable iter env z = pure z := by intro _; rfl) (hs' : ∀ Lc z, foldedSetIterable (.Name x q2) (compEnv scope env Lc cl) z = pure z := by intro _ _; rfl) (hclos : closureFor scope env = pure cl := by rfl) (hcell : ∀ y ∈ scope.names, y.2 ≠ .cell := by decide) (hkind : scope.kind = .function := by rfl)
    (hnames : (scope.names.all fun y => y.2 != .local || (compScope scope env).names.lookup y.1 == some .local) = true := by rfl) (hx : (compScope scope env).names.lookup x = some .local := by rfl) (hy : (compScope scope env).names.lookup y = some .local := by rfl)
    (dx : (x == ("__debug__" : Str)) = false := by decide) (dy : (y == ("__debug__" : Str)) = false := by decide) :
    wpAny (model prog w) A (eval (.ListComp (.Name y q1) [⟨.Name x px, iter, ifs, 0⟩, ⟨.Name y py, .Name x q2, [], 0⟩] scope pos) env) Q E s := by
  rw [eval_ListComp]
  refine listComp2U (use := none) hs hs' hclos hcell hkind (namesOk hnames) hx hy dx dy hh plain hsrc hz hcond fun s' Lc D us j g nD nL LD hm hD ha => ?_
  intro s'' e
  exact hQ s'' D us j ⟨fun b o q => e.keep b o (fun q' => by rw [q', nL] at q; cases q) (g.keep b o q), e.os.trans g.os, e.gens.trans g.gens⟩ nD (e.keep _ _ (Ne.symm LD) hD) ha
end

section
variable {prog : Program} {w : World} {A : Around} {E : Value → Shared → Prop} {s : Shared} {name : Str} {fscope : Scope} {L a : Addr} {cd : Value} {base : Heap} {m : Str → Option Value} {α β γ : Type}

/-- «y = [..]» -/
theorem assignU {y : Str} {py spos pos : Pos} {elt : Expr} {g : Comprehension} {gs : List Comprehension} {scope : Scope} {env : Env} {Q : Flow → Shared → Prop} (ga : g.is_async = 0)
    (h : ∀ ip, wpAny (model prog w) A (comprehension (.ListComp elt (g :: gs) scope pos) scope env ip (newList []) false (eval g.iter env) (some (assign (.Name y py) env))) (fun _ s' => Q .next s') E s)
    (hsw : swapsWith (.ListComp elt (g :: gs) scope pos) (some (.Name y py)) spos.line env = pure true := by rfl) :
    wpAny (model prog w) A (exec (.Assign [.Name y py] (.ListComp elt (g :: gs) scope pos) spos) env) Q E s := by
  rw [exec_Assign_Name_used _ _ _ _ hsw]
  refine wpAny_bind (wpAny_standAt (wpAny_bind ?_))
  obtain ⟨t, it, ifs, as⟩ := g
  obtain rfl : as = 0 := ga
  show wpAny _ A (do let _ ← comprehension (.ListComp elt (⟨t, it, ifs, 0⟩ :: gs) scope pos) scope env _ (newList []) false (eval it env) (some (assign (.Name y py) env))) _ _ s
  exact wpAny_bind (wpAny_mono (h _) (fun _ s' hq => wpAny_pure (wpAny_pure hq)) fun _ _ e => e)

theorem useAssign {y : Str} {py : Pos} {Lc D : Addr} {s' : Shared} {Q : Value → Shared → Prop} (F : Fr base L s.heap m) (g : Grow s s') (nL : s.heap.get? Lc = none) (hm : ∃ m, s'.heap.Ns Lc m)
    (h : ∀ s₃, Fr base L s₃.heap (upd m y (.ref D)) → ExL L s s₃ → (∀ b o, b ≠ L → b ≠ Lc → s'.heap.get? b = some o → s₃.heap.get? b = some o) → Q .none s₃)
    (hk : fscope.kind = .function) (hl : (envOf name fscope L a cd).kindOf y = some .local) : UseOk prog w A E (some (assign (.Name y py) (envOf name fscope L a cd))) Q Lc (.ref D) s' := by
  have LL : Lc ≠ L := fun q => by
    obtain ⟨o, _, _, e, _⟩ := F.ns
    rw [← q, nL] at e; cases e
  have bL : base.get? Lc = none := by
    cases q : base.get? Lc with
    | none => rfl
    | some o => rw [F.keep _ _ q] at nL; cases nL
  show wpAny _ A (assign (.Name y py) (envOf name fscope L a cd) (.ref D)) _ _ _
  refine wpAny_assign_Name (st_ (frGrow F g) (fun s₂ F₂ g₂ => ⟨?_, fun s₃ g₃ => h s₃ (frExL F₂ g₃ (Ne.symm LL) bL) ?_ fun b o n1 n2 e => g₃.keep b o n2 (g₂.keep b o n1 e)⟩) hk hl)
  · obtain ⟨m', o, es, ep, ho, r⟩ := hm
    exact ⟨m', o, es, ep, g₂.keep _ _ LL ho, r⟩
  · exact ⟨fun b o n e => g₃.keep b o (fun q => by rw [q, nL] at e; cases e) (g₂.keep b o n (g.keep b o e)), g₃.os.trans (g₂.os.trans g.os), g₃.gens.trans (g₂.gens.trans g.gens)⟩

theorem assignComp2 {RB : Value → γ → Prop} {X : List (List γ)} {p : List γ → Bool} {iter : Expr} {x y z : Str} {px py pz spos q1 q2 : Pos} {ifs : List Expr} {scope : Scope} {pos : Pos} {cl : List (Str × Addr)} {Q : Flow → Shared → Prop} (F : Fr base L s.heap m)
    (hh : A.handled = none) (plain : ∀ u b, RB u b → rf u = [])
    (hsrc : wpAny (model prog w) A (eval iter (envOf name fscope L a cd)) (fun y s₁ => wpAny (model prog w) A (pyIter y) (fun itv s₂ => ∃ it fp V P, itv = .ref it ∧ Src prog w s s₂ (RL RB s.heap) X it fp V P) E s₁) E s) (hz : X.flatten.length < 1000000)
    (hcond : ∀ v a' s₁ Lc m', Grow s s₁ → RL RB s.heap v a' → s₁.heap.Ns Lc m' → m' x = some v → wpAny (model prog w) A (conds ifs (compEnv scope (envOf name fscope L a cd) Lc cl)) (fun ok s₂ => Grow s₁ s₂ ∧ ok = p a') No s₁)
    (hQ : ∀ s' D us j, Fr base L s'.heap (upd m z (.ref D)) → ExL L s s' → s.heap.get? D = none → s'.heap.get? D = some (listOf us.toArray j) → All2 RB us (X.filter p).flatten → Q .next s')
    (hsw : swapsWith (.ListComp (.Name y q1) [⟨.Name x px, iter, ifs, 0⟩, ⟨.Name y py, .Name x q2, [], 0⟩] scope pos) (some (.Name z pz)) spos.line (envOf name fscope L a cd) = pure true := by rfl)
    (hk : fscope.kind = .function := by rfl) (hl : (envOf name fscope L a cd).kindOf z = some .local := by rfl)
    (hs : ∀ z, foldedSetIterable iter (envOf name fscope L a cd) z = pure z := by intro _; rfl) (hs' : ∀ Lc z, foldedSetIterable (.Name x q2) (compEnv scope (envOf name fscope L a cd) Lc cl) z = pure z := by intro _ _; rfl) (hclos : closureFor scope (envOf name fscope L a cd) = pure cl := by rfl) (hcell : ∀ y ∈ scope.names, y.2 ≠ .cell := by decide) (hkind : scope.kind = .function := by rfl)
    (hnames : (scope.names.all fun y => y.2 != .local || (compScope scope (envOf name fscope L a cd)).names.lookup y.1 == some .local) = true := by rfl) (hx : (compScope scope (envOf name fscope L a cd)).names.lookup x = some .local := by rfl) (hy : (compScope scope (envOf name fscope L a cd)).names.lookup y = some .local := by rfl)
    (dx : (x == ("__debug__" : Str)) = false := by decide) (dy : (y == ("__debug__" : Str)) = false := by decide) :
    wpAny (model prog w) A (exec (.Assign [.Name z pz] (.ListComp (.Name y q1) [⟨.Name x px, iter, ifs, 0⟩, ⟨.Name y py, .Name x q2, [], 0⟩] scope pos) spos) (envOf name fscope L a cd)) Q E s := by
  refine assignU rfl (fun ip => ?_) hsw
  refine listComp2U hs hs' hclos hcell hkind (namesOk hnames) hx hy dx dy hh plain hsrc hz hcond fun s' Lc D us j g nD nL LD hm hD ha => ?_
  have DL : D ≠ L := fun q => by
    obtain ⟨o, _, _, e, _⟩ := F.ns
    rw [← q, nD] at e; cases e
  exact useAssign F g nL hm (fun s₃ F₃ g₃ k₃ => hQ s₃ D us j F₃ g₃ nD (k₃ _ _ DL (Ne.symm LD) hD) ha) hk hl

theorem assignComp1 {RA : Value → α → Prop} {RO : Value → β → Heap → Prop} {X : List α} {p : α → Bool} {f : α → β} {elt iter : Expr} {x z : Str} {px pz spos : Pos} {ifs : List Expr} {scope : Scope} {pos : Pos} {cl : List (Str × Addr)} {Q : Flow → Shared → Prop} (F : Fr base L s.heap m)
    (hh : A.handled = none)
    (mono : ∀ u b h h', RO u b h → (∀ c ∈ rf u, ∀ o, h.get? c = some o → h'.get? c = some o) → RO u b h') (nodict : ∀ u b h, RO u b h → ∀ c ∈ rf u, ∀ o es n, h.get? c = some o → o.data ≠ .dict es n)
    (hsrc : wpAny (model prog w) A (eval iter (envOf name fscope L a cd)) (fun y s₁ => wpAny (model prog w) A (pyIter y) (fun itv s₂ => ∃ it fp V P, itv = .ref it ∧ Src prog w s s₂ RA X it fp V P) E s₁) E s) (hz : X.length < 1000000)
    (hcond : ∀ v a' s₁ Lc m', Grow s s₁ → RA v a' → s₁.heap.Ns Lc m' → m' x = some v → wpAny (model prog w) A (conds ifs (compEnv scope (envOf name fscope L a cd) Lc cl)) (fun ok s₂ => Grow s₁ s₂ ∧ ok = p a') No s₁)
    (helt : ∀ v a' s₁ Lc m', Grow s s₁ → RA v a' → p a' = true → s₁.heap.Ns Lc m' → m' x = some v → wpAny (model prog w) A (eval elt (compEnv scope (envOf name fscope L a cd) Lc cl)) (fun u s₂ => Grow s₁ s₂ ∧ RO u (f a') s₂.heap ∧ ∀ c ∈ rf u, s₂.heap.get? c ≠ none ∧ (s₁.heap.get? c = none ∨ s.heap.get? c ≠ none)) No s₁)
    (hQ : ∀ s' D us j, Fr base L s'.heap (upd m z (.ref D)) → ExL L s s' → s.heap.get? D = none → s'.heap.get? D = some (listOf us.toArray j) → All2 (fun u b => RO u b s'.heap) us ((X.filter p).map f) → us.length ≤ X.length → (∀ u ∈ us, ∀ c ∈ rf u, s'.heap.get? c ≠ none ∧ c ≠ D ∧ c ≠ L) → Q .next s')
    (hsw : swapsWith (.ListComp elt [⟨.Name x px, iter, ifs, 0⟩] scope pos) (some (.Name z pz)) spos.line (envOf name fscope L a cd) = pure true := by rfl)
    (hk : fscope.kind = .function := by rfl) (hl : (envOf name fscope L a cd).kindOf z = some .local := by rfl)
    (hs : ∀ y, foldedSetIterable iter (envOf name fscope L a cd) y = pure y := by intro _; rfl) (hclos : closureFor scope (envOf name fscope L a cd) = pure cl := by rfl) (hcell : ∀ y ∈ scope.names, y.2 ≠ .cell := by decide) (hkind : scope.kind = .function := by rfl)
    (hnames : (scope.names.all fun y => y.2 != .local || (compScope scope (envOf name fscope L a cd)).names.lookup y.1 == some .local) = true := by rfl) (hx : (compScope scope (envOf name fscope L a cd)).names.lookup x = some .local := by rfl) :
    wpAny (model prog w) A (exec (.Assign [.Name z pz] (.ListComp elt [⟨.Name x px, iter, ifs, 0⟩] scope pos) spos) (envOf name fscope L a cd)) Q E s := by
  refine assignU rfl (fun ip => ?_) hsw
  refine listCompU hs hclos hcell hkind (namesOk hnames) hx hh mono hsrc hz hcond helt fun s' Lc D us j g nD nL LD hm hD ha hl' hf => ?_
  have DL : D ≠ L := fun q => by
    obtain ⟨o, _, _, e, _⟩ := F.ns
    rw [← q, nD] at e; cases e
  have nl : ∀ {us : List Value} {bs : List β}, All2 (fun u b => RO u b s'.heap) us bs → ∀ u ∈ us, ∀ c ∈ rf u, c ≠ L := by
    intro us bs h
    induction h with
    | nil => intro u hu; cases hu
    | cons r _ ih =>
      intro u hu c hc
      rcases List.mem_cons.mp hu with rfl | hu
      · intro q
        obtain ⟨es, n, o, ho, hd⟩ := frDict (frGrow F g)
        exact nodict _ _ _ r c hc o es n (by rw [q]; exact ho) hd
      · exact ih u hu c hc
  refine useAssign F g nL hm (fun s₃ F₃ g₃ k₃ => hQ s₃ D us j F₃ g₃ nD (k₃ _ _ DL (Ne.symm LD) hD) (ha.mono fun u b hu r => mono _ _ _ _ r fun c hc o e => k₃ c o (nl ha u hu c hc) (hf u hu c hc).2.2 e) hl' fun u hu c hc => ⟨fun q => ?_, (hf u hu c hc).2.1, nl ha u hu c hc⟩) hk hl
  cases q' : s'.heap.get? c with
  | none => exact (hf u hu c hc).1 q'
  | some o => rw [k₃ c o (nl ha u hu c hc) (hf u hu c hc).2.2 q'] at q; cases q
end
open PySem PySem.W PyProof.Rows PySem.Calls PySem.SeqAt

/-- equality item by item -/
def eqList {α β : Type} (eq : α → β → Bool) : List α → List β → Bool
  | [], [] => true
  | x :: xs, y :: ys => eq x y && eqList eq xs ys
  | _, _ => false
theorem eqList_iff {α : Type} {eq : α → α → Bool} (h : ∀ x y, eq x y = true ↔ x = y) : ∀ xs ys, eqList eq xs ys = true ↔ xs = ys
  | [], [] => by simp [eqList]
  | x :: xs, y :: ys => by simp [eqList, h, eqList_iff h xs ys]
  | [], _ :: _ => by simp [eqList]
  | _ :: _, [] => by simp [eqList]
theorem eqList_all {α β : Type} {eq : α → β → Bool} : ∀ (xs : List α) (ys : List β), eqList eq xs ys = true ↔ All2 (fun x y => eq x y = true) xs ys
  | [], [] => by simp [eqList]; exact .nil
  | x :: xs, y :: ys => by
    simp only [eqList, Bool.and_eq_true, eqList_all xs ys]
    exact ⟨fun h => .cons h.1 h.2, fun h => by cases h with | cons a b => exact ⟨a, b⟩⟩
  | [], _ :: _ => by simp [eqList]; intro h; cases h
  | _ :: _, [] => by simp [eqList]; intro h; cases h
theorem eqList_len {α β : Type} {eq : α → β → Bool} : ∀ (xs : List α) (ys : List β), xs.length ≠ ys.length → eqList eq xs ys = false
  | [], [], h => absurd rfl h
  | x :: xs, y :: ys, h => by simp only [eqList, eqList_len xs ys (fun q => h (by simp [q])), Bool.and_false]
  | [], _ :: _, _ => rfl
  | _ :: _, [], _ => rfl
theorem eqList_range {α β : Type} {eq : α → β → Bool} : ∀ (xs : List α) (ys : List β) (e : Nat → Bool), xs.length = ys.length → (∀ j (h1 : j < xs.length) (h2 : j < ys.length), e j = eq xs[j] ys[j]) → (List.range xs.length).all e = eqList eq xs ys
  | [], [], _, _, _ => rfl
  | x :: xs, y :: ys, e, h, he => by
    rw [List.length_cons, List.range_succ_eq_map, List.all_cons, List.all_map, eqList, he 0 (by simp) (by simp)]
    congr 1
    exact eqList_range xs ys _ (by simpa using h) fun j h1 h2 => he (j + 1) (by simpa using h1) (by simpa using h2)
  | [], _ :: _, _, h, _ => by simp at h
  | _ :: _, [], _, h, _ => by simp at h

section
variable {α β : Type} {A : Around} {s : Shared} {l b : Addr} {us vs : List Value} {n k : Nat} {R : Value → α → Prop} {R' : Value → β → Prop} {X : List α} {Y : List β} {eq : α → β → Bool}

theorem isL (hl : s.heap.get? l = some (listOf us.toArray n)) : s.heap.IsList l us.toArray := ⟨_, hl, rfl, n, rfl⟩

theorem rcList (hl : s.heap.get? l = some (listOf us.toArray n)) (hb : s.heap.get? b = some (listOf vs.toArray k)) (hu : A.units < cLine) (ha : All2 R us X) (ha' : All2 R' vs Y) (he : ∀ u x v y, R u x → R' v y → EqAt A.in1 s u v (eq x y)) :
    RcAt A s (.ref l) (.ref b) (eqList eq X Y) := by
  by_cases hz : us.length = vs.length
  · have e1 := ha.length
    have e2 := ha'.length
    have := RcAt.lists (e := fun j => if h : j < X.length then (if h' : j < Y.length then eq X[j] Y[j] else false) else false) (isL hl) (isL hb) (by simpa using hz) hu fun j h1 h2 => by
      have h1' : j < us.length := by simpa using h1
      have h2' : j < vs.length := by simpa using h2
      have h3 : j < X.length := by omega
      have h4 : j < Y.length := by omega
      rw [dif_pos h3, dif_pos h4]
      simpa using he _ _ _ _ (ha.get j h1' h3) (ha'.get j h2' h4)
    rw [List.size_toArray, e1, eqList_range (eq := eq) X Y _ (by omega) fun j h1 h2 => by rw [dif_pos h1, dif_pos h2]] at this
    exact this
  · rw [eqList_len X Y (by rw [← ha.length, ← ha'.length]; exact hz)]
    exact RcAt.lists_lengths (isL hl) (isL hb) (by simpa using hz) hu

theorem neList (hl : s.heap.get? l = some (listOf us.toArray n)) (hb : s.heap.get? b = some (listOf vs.toArray k)) (hu : A.units < cLine) (ha : All2 R us X) (ha' : All2 R' vs Y) (he : ∀ u x v y, R u x → R' v y → EqAt A.in1 s u v (eq x y)) :
    RcNeAt A s (.ref l) (.ref b) (!eqList eq X Y) := by
  by_cases hz : us.length = vs.length
  · have e1 := ha.length
    have e2 := ha'.length
    have := RcNeAt.lists (e := fun j => if h : j < X.length then (if h' : j < Y.length then eq X[j] Y[j] else false) else false) (isL hl) (isL hb) (by simpa using hz) hu fun j h1 h2 => by
      have h1' : j < us.length := by simpa using h1
      have h2' : j < vs.length := by simpa using h2
      have h3 : j < X.length := by omega
      have h4 : j < Y.length := by omega
      rw [dif_pos h3, dif_pos h4]
      simpa using he _ _ _ _ (ha.get j h1' h3) (ha'.get j h2' h4)
    rw [List.size_toArray, e1, eqList_range (eq := eq) X Y _ (by omega) fun j h1 h2 => by rw [dif_pos h1, dif_pos h2]] at this
    exact this
  · rw [eqList_len X Y (by rw [← ha.length, ← ha'.length]; exact hz)]
    exact RcNeAt.lists_lengths (isL hl) (isL hb) (by simpa using hz) hu

theorem eqAtList (hl : s.heap.get? l = some (listOf us.toArray n)) (hb : s.heap.get? b = some (listOf vs.toArray k)) (hne : l ≠ b) (hu : A.units < cLine) (ha : All2 R us X) (ha' : All2 R' vs Y) (he : ∀ u x v y, R u x → R' v y → EqAt A.in1 s u v (eq x y)) :
    EqAt A s (.ref l) (.ref b) (eqList eq X Y) := EqAt.of_refs hne (rcList hl hb hu ha ha' he)

/-- a list against the empty one -/
theorem neEmpty (hl : s.heap.get? l = some (listOf us.toArray n)) (hb : s.heap.get? b = some (listOf [].toArray k)) (hu : A.units < cLine) : RcNeAt A s (.ref l) (.ref b) (!us.isEmpty) := by
  cases us with
  | nil => exact RcNeAt.lists (e := fun _ => true) (isL hl) (isL hb) rfl hu fun j h1 => absurd h1 (by simp)
  | cons u us => exact RcNeAt.lists_lengths (isL hl) (isL hb) (by simp) hu
theorem rcEmpty (hl : s.heap.get? l = some (listOf us.toArray n)) (hb : s.heap.get? b = some (listOf [].toArray k)) (hu : A.units < cLine) : RcAt A s (.ref l) (.ref b) us.isEmpty := by
  cases us with
  | nil => exact RcAt.lists (e := fun _ => true) (isL hl) (isL hb) rfl hu fun j h1 => absurd h1 (by simp)
  | cons u us => exact RcAt.lists_lengths (isL hl) (isL hb) (by simp) hu
end

/-- e is the value v at s -/
def EvV (prog : Program) (w : World) (A : Around) (env : Env) (e : Expr) (v : Value) (s : Shared) : Prop := wpAny (model prog w) A (eval e env) (fun u s' => Grow s s' ∧ u = v) No s

section
variable {prog : Program} {w : World} {A : Around} {E : Value → Shared → Prop} {s : Shared} {env : Env} {e e1 e2 : Expr} {a b n : Int} {pos : Pos} {m : Str → Option Value} {v : Value}

theorem EvV.use {Q : Value → Shared → Prop} (h : EvV prog w A env e v s) (hQ : ∀ s', Grow s s' → Q v s') : wpAny (model prog w) A (eval e env) Q E s :=
  wpAny_mono h (fun u s' ⟨g, q⟩ => by rw [q]; exact hQ s' g) fun _ _ q => q.elim
theorem EvV.name {x : Str} (hn : s.heap.Ns env.locals m) (hv : m x = some v)
    (hk : env.scope.kind = .function := by rfl) (hl : env.kindOf x = some .local := by rfl) (hd : (x == ("__debug__" : Str)) = false := by decide) : EvV prog w A env (.Name x pos) v s :=
  ldE hn hv ⟨.refl _, rfl⟩ hk hl hd
/-- xs[-1] -/
theorem EvV.last {D : Addr} {vs : List Value} {k j : Nat} {p1 p2 : Pos} (h : EvV prog w A env e (.ref D) s) (hD : s.heap.get? D = some (listOf (vs ++ [v]).toArray j)) (hz : vs.length < 1000000) :
    EvV prog w A env (.Subscript e (.UnaryOp .USub (.Constant (.int 1) k p1) p2) pos) v s := by
  refine Subscript_ (h.use fun s₁ g₁ => (EvI.neg EvI.const).use fun s₂ t g₂ => ?_)
  have hL := isL (g₂.keep _ _ (g₁.keep _ _ hD))
  refine tail_any hL.typeIs slot_list_getitem.lookup (wpAny_getItem_list_neg (x := v) hL (by decide) (by simp; omega) (by decide) ?_ ⟨g₁.trans g₂, rfl⟩) (by with_unfolding_all rfl)
  simp only [List.size_toArray, List.length_append, List.length_cons, List.length_nil]
  have q : ((-1 : Int) + ((vs.length + (0 + 1) : Nat) : Int)).toNat = vs.length := by omega
  rw [q]; simp
/-- xs[0] -/
theorem EvV.head {D : Addr} {vs : List Value} {k j : Nat} {p1 : Pos} (h : EvV prog w A env e (.ref D) s) (hD : s.heap.get? D = some (listOf (v :: vs).toArray j)) :
    EvV prog w A env (.Subscript e (.Constant (.int 0) k p1) pos) v s := by
  refine Subscript_ (h.use fun s₁ g₁ => (EvI.const (n := 0)).use fun s₂ t g₂ => ?_)
  have hL := isL (g₂.keep _ _ (g₁.keep _ _ hD))
  exact tail_any hL.typeIs slot_list_getitem.lookup (wpAny_getItem_list (x := v) hL (by decide) (by decide) (by simp) ⟨g₁.trans g₂, rfl⟩) (by with_unfolding_all rfl)
theorem EvV.int {t : Tok} (h : EvV prog w A env e (.int n t) s) : EvI prog w A env e n s := wpAny_mono h (fun u s' ⟨g, q⟩ => ⟨g, t, q⟩) fun _ _ q => q

/-- «o.append(e)» as a statement -/
theorem appendAny {o : Expr} {pl : Sem Bool} {p1 p2 p3 : Pos} {D : Addr} {ms : List Value} {n : Nat} {Q : Flow → Shared → Prop} (ho : EvV prog w A env o (.ref D) s) (hD : s.heap.get? D = some (listOf ms.toArray n)) (hsz : ms.length < 1000000)
    (he : ∀ s₁, Grow s s₁ → wpAny (model prog w) A (eval e env) (fun v s₂ => Grow s₁ s₂ ∧ ∀ s', ExL D s₂ s' → s'.heap.get? D = some (listOf (ms ++ [v]).toArray (n + 1)) → Q .next s') E s₁)
    (hc : eval (.Call (.Attribute o "append" p1) [e] [] p2) env = (do
      let ov ← eval o env
      standAt p1.atName
      let (f, first) ← holding [ov] (getMethod ov "append" pl)
      callWith p2 f first (backTo p2 (starEach [e] env)) []) := by rfl)
    (hs : starEach [e] env = [(false, eval e env)] := by rfl) (hi : interactive env = false := by rfl) :
    wpAny (model prog w) A (exec (.Expr (.Call (.Attribute o "append" p1) [e] [] p2) p3) env) Q E s := by
  refine wpAny_Expr_any (MethodCall_ (ho.use fun s₀ g₀ => ?_) hc) hi rfl
  have hD₀ := g₀.keep _ _ hD
  refine getMethod_builtin ⟨_, hD₀, rfl⟩ PySem.F.plainAttrs_list slot_list_append PySem.F.type_list_append (fun x q => by cases q; exact ⟨_, hD₀, rfl⟩) ?_
  refine callWith_method1 (spliced_more (wpAny_mono (he s₀ g₀) (fun v s₁ ⟨g, h⟩ => spliced_none ?_) fun _ _ x => x) hs) hs rfl
  refine append_at (g.keep _ _ hD₀) (fun h' sb hD' => h _ ⟨fun b o n q => (sb.2 b n).trans q, rfl, rfl⟩ ?_) ?_
  · have q : ms.toArray.push v = (ms ++ [v]).toArray := by simp
    rw [q] at hD'; exact hD'
  · rw [List.size_toArray, sizeLine_eq]; omega

theorem mulAny {l : Addr} {items : Array Value} {k : Nat} {x : Int} {u : Tok} {Q : Value → Shared → Prop}
    (hl : s.heap.get? l = some { cls := .type "list", dict := none, data := .seq items k, slots := #[] })
    (hlo : -(2 ^ 63 : Int) ≤ x) (hhi : x < 2 ^ 63) (hsz : items.size * x.toNat ≤ 2 ^ 24)
    (h : Q (.ref s.heap.objs.size) { s with heap := s.heap.push { cls := .type "list", data := .seq (List.foldl (fun x1 x2 => x1 ++ x2) #[] (List.replicate (if items.isEmpty = true then 0 else x.toNat) items)) } }) :
    wpAny (model prog w) A (binaryOp .Mult (.ref l) (.int x u)) Q E s :=
  wpAny_binaryOp_repeat_ref (T := "list") (U := "int") (by decide) ⟨_, hl, rfl⟩ (fun s' => typeIs_int s' x u) noFill_list_mul F.fills_int_mul F.slot_int_rmul repeat_list F.slot_int_index.lookup
    (call_meets F.slot_int_rmul (typeIs_int s x u) F.entry_int_rmul (F.args_int_rmul_2 _ _) (int___rmul___int_list x u l items k)
      ⟨hl, rfl, ⟨_, hl, rfl⟩, call_meets F.slot_list_mul ⟨_, hl, rfl⟩ F.entry_list_mul (F.args_list_mul_2 _ _)
        (AutoListH.list___mul___list_int_3 l items k x u (by simp [Builtin.List.listFitsIndex]; omega) (by omega) (by simp [Builtin.List.listTooLong, sizeLine]; omega))
        ⟨hl, h⟩⟩)

/-- «[v] * x» -/
theorem mulList {l : Addr} {x : Nat} {u : Tok} {j : Nat} {Q : Value → Shared → Prop} (hl : s.heap.get? l = some (listOf [v].toArray j)) (hx : x < 1000000)
    (h : ∀ s' D, Grow s s' → s.heap.get? D = none → s'.heap.get? D = some (listOf (List.replicate x v).toArray 0) → Q (.ref D) s') : wpAny (model prog w) A (binaryOp .Mult (.ref l) (.int (x : Nat) u)) Q E s := by
  refine mulAny hl (by omega) (by omega) (by simp; omega) (h _ _ ⟨fun _ _ e => Heap.get?_push_of_some _ e, rfl, rfl⟩ (Heap.get?_none_of_le (Nat.le_refl _)) ?_)
  have q : ∀ (k : Nat) (acc : Array Value), List.foldl (fun x1 x2 => x1 ++ x2) acc (List.replicate k [v].toArray) = acc ++ (List.replicate k v).toArray := by
    intro k
    induction k with
    | zero => intro acc; simp
    | succ k ih => intro acc; rw [List.replicate_succ, List.foldl_cons, ih, List.replicate_succ]; apply Array.toList_inj.mp; simp
  have e : (if ([v].toArray).isEmpty = true then 0 else (x : Int).toNat) = x := by simp
  refine (Heap.get?_push_size s.heap rfl).trans ?_
  rw [q, e]
  simp

/-- «on.extend([e1] * e2)» as a statement -/
theorem extendMul {o : Expr} {pl : Sem Bool} {p1 p2 p3 q1 q2 : Pos} {D : Addr} {ms : List Value} {k x : Nat} {Q : Flow → Shared → Prop} (ho : EvV prog w A env o (.ref D) s) (hD : s.heap.get? D = some (listOf ms.toArray k)) (hsz : ms.length + x < 1000000)
    (h1 : ∀ s₁, Grow s s₁ → EvI prog w A env e1 a s₁) (h2 : ∀ s₁, Grow s s₁ → EvI prog w A env e2 (x : Nat) s₁)
    (hQ : ∀ s' k' t, ExL D s s' → s'.heap.get? D = some (listOf (ms ++ List.replicate x (Value.int a t)).toArray k') → Q .next s')
    (hc : eval (.Call (.Attribute o "extend" p1) [.BinOp (.List [e1] q1) .Mult e2 q2] [] p2) env = (do
      let ov ← eval o env
      standAt p1.atName
      let (f, first) ← holding [ov] (getMethod ov "extend" pl)
      callWith p2 f first (backTo p2 (starEach [.BinOp (.List [e1] q1) .Mult e2 q2] env)) []) := by rfl)
    (hs : starEach [e1] env = [(false, eval e1 env)] := by rfl) (hi : interactive env = false := by rfl) :
    wpAny (model prog w) A (exec (.Expr (.Call (.Attribute o "extend" p1) [.BinOp (.List [e1] q1) .Mult e2 q2] [] p2) p3) env) Q E s := by
  refine wpAny_Expr_any (MethodCall_ (ho.use fun s₀ g₀ => ?_) hc) hi rfl
  have hD₀ := g₀.keep _ _ hD
  refine getMethod_builtin ⟨_, hD₀, rfl⟩ PySem.F.plainAttrs_list PySem.F.slot_list_extend PySem.F.type_list_extend (fun x q => by cases q; exact ⟨_, hD₀, rfl⟩) ?_
  refine callWith_method1 (spliced_more (wpAny_BinOp (List_ (spliced_more ((h1 s₀ g₀).use fun s₁ t g₁ => spliced_none (newList_ fun s₂ l g₂ hl _ => ?_)) hs))) rfl) rfl rfl
  refine (h2 s₂ ((g₀.trans g₁).trans g₂)).use fun s₃ t' g₃ => ?_
  refine mulList (g₃.keep _ _ hl) (by omega) fun s₄ B g₄ _ hB => spliced_none ?_
  have g := (g₁.trans g₂).trans (g₃.trans g₄)
  refine extendCall (g.keep _ _ hD₀) hB (by rw [List.length_replicate]; omega) fun s' n' g' hD' => hQ s' n' t ((g₀.trans g).exL.trans g') hD'

/-- «(n0, .., n4)[e]» -/
theorem EvI.tup5 {n0 n1 n2 n3 n4 : Int} {k0 k1 k2 k3 k4 kk : Nat} {p0 p1 p2 p3 p4 pt q : Pos} {op : Operator} (h : ∀ s', Grow s s' → EvI prog w A env (.BinOp e1 op e2 q) n s') (hn : 0 ≤ n) (hn' : n < 5)
    (hs : starEach [.Constant (.int n0) k0 p0, .Constant (.int n1) k1 p1, .Constant (.int n2) k2 p2, .Constant (.int n3) k3 p3, .Constant (.int n4) k4 p4] env = [(false, eval (.Constant (.int n0) k0 p0) env), (false, eval (.Constant (.int n1) k1 p1) env), (false, eval (.Constant (.int n2) k2 p2) env), (false, eval (.Constant (.int n3) k3 p3) env), (false, eval (.Constant (.int n4) k4 p4) env)] := by rfl) :
    EvI prog w A env (.Subscript (.Tuple [.Constant (.int n0) k0 p0, .Constant (.int n1) k1 p1, .Constant (.int n2) k2 p2, .Constant (.int n3) k3 p3, .Constant (.int n4) k4 p4] kk pt) (.BinOp e1 op e2 q) pos) ([n0, n1, n2, n3, n4].getD n.toNat 0) s := by
  refine Subscript_ (Tuple_ ?_)
  refine spliced_more (EvI.const.use fun s₁ t1 g₁ => spliced_more (EvI.const.use fun s₂ t2 g₂ => spliced_more (EvI.const.use fun s₃ t3 g₃ => spliced_more (EvI.const.use fun s₄ t4 g₄ => spliced_more (EvI.const.use fun s₅ t5 g₅ => spliced_none (newTuple_ fun s₆ T g₆ hT _ => ?_)) rfl) rfl) rfl) rfl) hs
  have g := g₁.trans (g₂.trans (g₃.trans (g₄.trans (g₅.trans g₆))))
  refine (h s₆ g).use fun s₇ t7 g₇ => ?_
  have hT' : IsTup s₇.heap T [.int n0 t1, .int n1 t2, .int n2 t3, .int n3 t4, .int n4 t5].toArray := ⟨_, g₇.keep _ _ hT, rfl, _, rfl⟩
  obtain ⟨i, rfl⟩ : ∃ i : Nat, n = (i : Nat) := ⟨n.toNat, by omega⟩
  have hi : i < 5 := by omega
  refine item_tupleT (j := i) hT' (by omega) (by omega) (by unfold seqIndex?; have h5 : ([Value.int n0 t1, .int n1 t2, .int n2 t3, .int n3 t4, .int n4 t5] : List Value).length = 5 := rfl; rw [h5]; match i, hi with | 0, _ => rfl | 1, _ => rfl | 2, _ => rfl | 3, _ => rfl | 4, _ => rfl) (List.getElem?_eq_getElem (by simpa using hi)) ⟨g.trans g₇, ?_⟩ (by with_unfolding_all rfl)
  match i, hi with
  | 0, _ => exact ⟨_, rfl⟩
  | 1, _ => exact ⟨_, rfl⟩
  | 2, _ => exact ⟨_, rfl⟩
  | 3, _ => exact ⟨_, rfl⟩
  | 4, _ => exact ⟨_, rfl⟩
end
open PySem PySem.W PyProof.Rows PySem.Calls PySem.SeqAt

/-- all but two objects stand -/
structure Ex2 (a b : Addr) (s s' : Shared) : Prop where
  keep : ∀ c o, c ≠ a → c ≠ b → s.heap.get? c = some o → s'.heap.get? c = some o
  os : s'.os = s.os
  gens : s'.gens = s.gens
theorem ExL.ex2l {a b : Addr} {s s' : Shared} (g : ExL a s s') : Ex2 a b s s' := ⟨fun c o n _ e => g.keep c o n e, g.os, g.gens⟩
theorem ExL.ex2r {a b : Addr} {s s' : Shared} (g : ExL b s s') : Ex2 a b s s' := ⟨fun c o _ n e => g.keep c o n e, g.os, g.gens⟩
theorem Ex2.trans {a b : Addr} {s s' s'' : Shared} (x : Ex2 a b s s') (y : Ex2 a b s' s'') : Ex2 a b s s'' := ⟨fun c o n n' e => y.keep c o n n' (x.keep c o n n' e), y.os.trans x.os, y.gens.trans x.gens⟩

section
variable {prog : Program} {w : World} {A : Around} {E : Value → Shared → Prop} {s : Shared} {α : Type}

theorem srcListF {RA : Value → α → Prop} {X : List α} {vs : List Value} {l : Addr} {n : Nat} {s₁ : Shared} (g : Grow s s₁) (hl : s₁.heap.get? l = some (listOf vs.toArray n)) (ha : All2 RA vs X) :
    wpAny (model prog w) A (pyIter (.ref l)) (fun itv s₂ => ∃ it V P, itv = .ref it ∧ Src prog w s s₂ RA X it [it, l] V P) E s₁ := by
  refine pyIterList hl fun s₂ it g₂ ni nil st => ⟨it, fun k v => vs[k]? = some v, fun k h => h.IsListIter it l k ∧ h.IsList l vs.toArray, rfl, ?_⟩
  have D := iterList (prog := prog) (w := w) (vs := vs) nil
  have e := ha.length
  refine ⟨by rw [← e]; exact D, st, g.trans g₂, ?_, D.there st, ?_, fun k v hk hv => ?_⟩
  · cases q : s.heap.get? it with
    | none => rfl
    | some o => rw [g.keep _ _ q] at ni; cases ni
  · intro b hb q
    rcases List.mem_cons.mp hb with rfl | hb
    · exact D.there st q
    · rw [List.mem_singleton.mp hb, g₂.keep _ _ hl] at q; cases q
  · have hk' : k < vs.length := by omega
    have : v = vs[k] := by rw [List.getElem?_eq_getElem hk'] at hv; exact (Option.some.inj hv).symm
    rw [this]
    exact ha.get k hk' hk

/-- the same, for a list of which no more is known -/
theorem srcListI {RA : Value → α → Prop} {X : List α} {vs : List Value} {l : Addr} {s₁ : Shared} (g : Grow s s₁) (hL : s₁.heap.IsList l vs.toArray) (ha : All2 RA vs X) :
    wpAny (model prog w) A (pyIter (.ref l)) (fun itv s₂ => ∃ it V P, itv = .ref it ∧ Src prog w s s₂ RA X it [it, l] V P) E s₁ := by
  obtain ⟨o, ho, r⟩ := id hL
  refine wpAny_pyIter_list hL ⟨_, fun k v => vs[k]? = some v, fun k h => h.IsListIter s₁.heap.objs.size l k ∧ h.IsList l vs.toArray, rfl, ?_⟩
  have nil : s₁.heap.objs.size ≠ l := Nat.ne_of_gt (Heap.lt_size ho)
  have D := iterList (prog := prog) (w := w) (vs := vs) nil
  have e := ha.length
  refine ⟨by rw [← e]; exact D, ⟨⟨_, Heap.get?_push_size _ rfl, rfl, rfl⟩, hL.push _⟩, g.trans ⟨fun _ _ e => Heap.get?_push_of_some _ e, rfl, rfl⟩, ?_, ?_, ?_, fun k v hk hv => ?_⟩
  · cases q : s.heap.get? s₁.heap.objs.size with
    | none => rfl
    | some o => exact absurd (Heap.lt_size (g.keep _ _ q)) (Nat.lt_irrefl _)
  · rw [Heap.get?_push_size _ rfl]; exact fun q => by cases q
  · intro b hb q
    rcases List.mem_cons.mp hb with rfl | hb
    · rw [Heap.get?_push_size _ rfl] at q; cases q
    · rw [List.mem_singleton.mp hb, Heap.get?_push_of_some _ ho] at q; cases q
  · have hk' : k < vs.length := by omega
    have : v = vs[k] := by rw [List.getElem?_eq_getElem hk'] at hv; exact (Option.some.inj hv).symm
    rw [this]
    exact ha.get k hk' hk

theorem srcRangeF {n : Nat} {r : Addr} {t u v : Tok} {s₁ : Shared} (g : Grow s s₁) (hr : IsRange s₁.heap r 0 (n : Nat) 1 t u v) (hn : n < 1000000) :
    wpAny (model prog w) A (pyIter (.ref r)) (fun itv s₂ => ∃ it V P, itv = .ref it ∧ Src prog w s s₂ (fun v (k : Nat) => ∃ t, v = .int (k : Nat) t) (List.range n) it [it] V P) E s₁ := by
  refine pyIterRange hr hn fun s₂ it g₂ ni st => ⟨it, fun k v => ∃ t, v = .int (k : Nat) t, fun k h => IsRangeIter h it (k : Nat) ((n : Int) - (k : Nat)) 1, rfl, ?_⟩
  have D := iterRange (prog := prog) (w := w) (it := it) (n := n)
  refine ⟨by rw [List.length_range]; exact D, st, g.trans g₂, ?_, D.there st, ?_, fun k v hk hv => ?_⟩
  · cases q : s.heap.get? it with
    | none => rfl
    | some o => rw [g.keep _ _ q] at ni; cases ni
  · intro b hb q
    rw [List.mem_singleton.mp hb] at q
    exact D.there st q
  · simpa using hv
end

section
variable {prog : Program} {w : World} {A : Around} {E : Value → Shared → Prop} {s : Shared} {name : Str} {fscope : Scope} {L a : Addr} {cd : Value} {base : Heap} {m : Str → Option Value} {α : Type}

/-- a for-loop in a function -/
theorem forS {RA : Value → α → Prop} {X : List α} {fps : Addr → List Addr} {x : Str} {px pos : Pos} {iter : Expr} {body : List Stmt} {Q : Flow → Shared → Prop} (F : Fr base L s.heap m) (hh : A.handled = none)
    (hsrc : wpAny (model prog w) A (eval iter (envOf name fscope L a cd)) (fun y s₁ => wpAny (model prog w) A (pyIter y) (fun itv s₂ => ∃ it V P, itv = .ref it ∧ Src prog w s s₂ RA X it (fps it) V P) E s₁) E s)
    (hfp : ∀ it, s.heap.get? it = none → L ∉ fps it)
    (J : Addr → Nat → Shared → (Str → Option Value) → Prop)
    (hJ : ∀ it k s₁ s₂ m', s.heap.get? it = none → J it k s₁ m' → Ex2 it L s₁ s₂ → J it k s₂ m')
    (h0 : ∀ it s₁, s.heap.get? it = none → Grow s s₁ → J it 0 s₁ m)
    (turn : ∀ it k v s₁ m₁ (hk : k < X.length), s.heap.get? it = none → it ≠ L → s₁.heap.get? it ≠ none → (∀ b ∈ fps it, s₁.heap.get? b ≠ none) → RA v X[k] → Fr base L s₁.heap (upd m₁ x v) → J it k s₁ m₁ →
      wpAny (model prog w) A (execs body (envOf name fscope L a cd)) (fun f s₃ => (f = .next ∧ Stay (fps it) s₁.heap s₃.heap ∧ ∃ m₃, Fr base L s₃.heap m₃ ∧ J it (k + 1) s₃ m₃) ∨ ∃ v, f = .ret v ∧ Q (.ret v) s₃) No s₁)
    (hQ : ∀ it s' m', s.heap.get? it = none → Fr base L s'.heap m' → J it X.length s' m' → Q .next s')
    (hk : fscope.kind = .function := by rfl) (hl : (envOf name fscope L a cd).kindOf x = some .local := by rfl)
    (hs : ∀ x, foldedSetIterable iter (envOf name fscope L a cd) x = pure x := by intro _; rfl) :
    wpAny (model prog w) A (exec (.For (.Name x px) iter body [] pos) (envOf name fscope L a cd)) Q E s := by
  refine wpAny_For (wpAny_mono hsrc (fun y s₁ h₁ => wpAny_mono h₁ (fun itv s₂ h₂ => ?_) fun _ _ e => e) fun _ _ e => e) hs
  obtain ⟨it, V, P, rfl, S⟩ := h₂
  have ni := S.ni
  have iL : it ≠ L := fun q => hfp it ni (q ▸ S.D.mem)
  have fL := hfp it ni
  have bi : base.get? it = none := by
    cases q : base.get? it with
    | none => rfl
    | some o => rw [F.keep _ _ q] at ni; cases ni
  refine forIt (R := fun r s' => match r with | .ok f => Q f s' | .error e => cameBackBy (model prog w) A (envOf name fscope L a cd) E e s') S.D hh S.p0 (fun k s₁ => (∀ b ∈ fps it, b ≠ it → s₁.heap.get? b ≠ none) ∧ ∃ m₁, Fr base L s₁.heap m₁ ∧ J it k s₁ m₁) ?_ ⟨fun b hb _ => S.fp b hb, m, frGrow F S.g, h0 it s₂ ni S.g⟩ ?_ ?_
  · rintro k s₁ s₃ ⟨hf, m₁, F₁, j₁⟩ g
    refine ⟨fun b hb n q => ?_, m₁, frExL F₁ g (Ne.symm iL) bi, hJ it k s₁ s₃ m₁ ni j₁ g.ex2l⟩
    cases e : s₁.heap.get? b with
    | none => exact hf b hb n e
    | some o => rw [g.keep _ _ n e] at q; cases q
  · rintro k v s₁ hk' hv hp ⟨hf, m₁, F₁, j₁⟩
    have git := S.D.there hp
    refine st_ F₁ (fun s₂ F₂ g₂ => ?_) hk hl
    have k12 : ∀ b, b ≠ L → s₁.heap.get? b ≠ none → s₂.heap.get? b ≠ none := fun b n e q => by
      cases e' : s₁.heap.get? b with
      | none => exact e e'
      | some o => rw [g₂.keep _ _ n e'] at q; cases q
    refine wpAny_mono (turn it k v s₂ m₁ hk' ni iL (k12 it iL git) (fun b hb => k12 b (fun q => fL (q ▸ hb)) ?_) (S.ra k v hk' hv) F₂ (hJ it k s₁ s₂ m₁ ni j₁ g₂.ex2r)) (fun f s₃ h₃ => ?_) fun _ _ q => q
    · by_cases q : b = it
      · rw [q]; exact git
      · exact hf b hb q
    · rcases h₃ with ⟨rfl, st, m₃, F₃, j₃⟩ | h₃
      · refine .inl ⟨rfl, fun b hb o e => st b hb o (g₂.keep b o (fun q => fL (q ▸ hb)) e), fun b hb n q => ?_, m₃, F₃, j₃⟩
        cases e : s₁.heap.get? b with
        | none => exact hf b hb n e
        | some o => rw [st b hb o (g₂.keep b o (fun q => fL (q ▸ hb)) e)] at q; cases q
      · exact .inr h₃
  · rintro s' ⟨_, m', F', j'⟩
    exact hQ it s' m' ni F' j'
end
open PySem PySem.W PyProof.Rows PySem.Calls PySem.SeqAt

section
variable {prog : Program} {w : World} {A : Around} {E : Value → Shared → Prop} {s : Shared} {env : Env} {e lo : Expr} {pos p : Pos} {D : Addr} {vs : List Value} {j k : Nat}

/-- xs[lo:] -/
theorem sliceFrom {Q : Value → Shared → Prop} (h : EvV prog w A env e (.ref D) s) (hD : s.heap.get? D = some (listOf vs.toArray j)) (hz : vs.length < 1000000) (hk : ∀ s₁, Grow s s₁ → EvI prog w A env lo (k : Nat) s₁)
    (hQ : ∀ s' B, Grow s s' → s.heap.get? B = none → s'.heap.get? B = some (listOf (vs.drop k).toArray 0) → Q (.ref B) s') : wpAny (model prog w) A (eval (.Subscript e (.Slice (some lo) none none p) pos) env) Q E s := by
  refine Subscript_ (h.use fun s₁ g₁ => wpAny_Slice ?_)
  rw [evalPart_some, evalPart_none]
  refine (hk s₁ g₁).use fun s₂ t g₂ => wpAny_pure (wpAny_pure ?_)
  have g₃ : Grow s₂ { s₂ with heap := s₂.heap.push { cls := .type "slice", data := .fields #[.int (k : Nat) t, .none, .none] } } := ⟨fun _ _ e => Heap.get?_push_of_some _ e, rfl, rfl⟩
  have g := g₁.trans (g₂.trans g₃)
  have hL := isL (g.keep _ _ hD)
  refine tail_any hL.typeIs slot_list_getitem.lookup (wpAny_getItem_list_slice hL (Heap.IsSliceOf.new ..) (.int _ _) .none .none (by simp) ?_ (by rw [List.size_toArray, sizeLine_eq]; omega)) rfl
  have e : slicePick vs.toArray (some (k : Int)) none none = (vs.drop k).toArray := by rw [slicePick_from']
  rw [e]
  refine hQ _ _ ⟨fun _ _ e => Heap.get?_push_of_some _ (g.keep _ _ e), g.os, g.gens⟩ ?_ (Heap.get?_push_size _ rfl)
  cases q : s.heap.get? (s₂.heap.push { cls := .type "slice", data := .fields #[.int (k : Nat) t, .none, .none] }).objs.size with
  | none => rfl
  | some o => exact absurd (Heap.lt_size (g.keep _ _ q)) (Nat.lt_irrefl _)

/-- xs[:] -/
theorem sliceAll {Q : Value → Shared → Prop} (h : EvV prog w A env e (.ref D) s) (hD : s.heap.get? D = some (listOf vs.toArray j)) (hz : vs.length < 1000000)
    (hQ : ∀ s' B, Grow s s' → s.heap.get? B = none → s'.heap.get? B = some (listOf vs.toArray 0) → Q (.ref B) s') : wpAny (model prog w) A (eval (.Subscript e (.Slice none none none p) pos) env) Q E s := by
  refine Subscript_ (h.use fun s₁ g₁ => wpAny_Slice ?_)
  simp only [evalPart_none]
  refine wpAny_pure (wpAny_pure (wpAny_pure ?_))
  have g₃ : Grow s₁ { s₁ with heap := s₁.heap.push { cls := .type "slice", data := .fields #[.none, .none, .none] } } := ⟨fun _ _ e => Heap.get?_push_of_some _ e, rfl, rfl⟩
  have g := g₁.trans g₃
  have hL := isL (g.keep _ _ hD)
  refine tail_any hL.typeIs slot_list_getitem.lookup (wpAny_getItem_list_slice hL (Heap.IsSliceOf.new ..) .none .none .none (by simp) ?_ (by rw [List.size_toArray, sizeLine_eq]; omega)) rfl
  rw [slicePick_all]
  refine hQ _ _ ⟨fun _ _ e => Heap.get?_push_of_some _ (g.keep _ _ e), g.os, g.gens⟩ ?_ (Heap.get?_push_size _ rfl)
  cases q : s.heap.get? (s₁.heap.push { cls := .type "slice", data := .fields #[.none, .none, .none] }).objs.size with
  | none => rfl
  | some o => exact absurd (Heap.lt_size (g.keep _ _ q)) (Nat.lt_irrefl _)

/-- len(xs) -/
theorem EvI.len {x : Str} {p1 : Pos} (hb : wpAny (model prog w) A (eval (.Name x p) env) (fun v s' => v = .builtin "len" ∧ s' = s) No s) (h : EvV prog w A env e (.ref D) s) (hD : s.heap.get? D = some (listOf vs.toArray j)) (hz : vs.length < 1000000)
    (hc : eval (.Call (.Name x p) [e] [] p1) env = (do callWith p1 (← eval (.Name x p) env) [] (backTo p1 (starEach [e] env)) (backToKw p1 (keywordEach [] env))) := by rfl)
    (q1 : starEach [e] env = (false, eval e env) :: starEach [] env := by rfl) :
    EvI prog w A env (.Call (.Name x p) [e] [] p1) (vs.length : Nat) s := by
  refine Call_ (wpAny_mono hb (fun v s' ⟨q, q'⟩ => ?_) fun _ _ q => q) hc
  subst q q'
  refine callWith_builtin1 (spliced_more (h.use fun s₁ g => spliced_none ?_) q1) q1 rfl
  refine len_list (isL (g.keep _ _ hD)) (by rw [List.size_toArray]; omega) ?_
  rw [List.size_toArray]
  exact ⟨g.trans (Grow.toks _ _), _, rfl⟩
end
open PySem PySem.W PyProof.Rows PySem.Calls

abbrev pg : Program := PySem.Challenge.pw_dn0234_05

/-- a set {n, -1 - n} -/
def RS (prog : Program) (w : World) (u : Value) (n : Int) (h : Heap) : Prop := ∃ c, u = .ref c ∧ h.SetOf (intKind prog w) c (fun k => decide (k = n) || decide (k = -1 - n)) 2

theorem RS.mono {prog : Program} {w : World} {u : Value} {n : Int} {h h' : Heap} (x : RS prog w u n h) (k : ∀ c ∈ rf u, ∀ o, h.get? c = some o → h'.get? c = some o) : RS prog w u n h' := by
  obtain ⟨c, rfl, o, es, ep, t, ho, r⟩ := x
  exact ⟨c, rfl, o, es, ep, t, k c (.head _) o ho, r⟩

section
variable {prog : Program} {w : World} {A : Around} {s : Shared} {f l : Addr} {cd : Value} {vs : List Value} {X : List Int} {k : Nat}

theorem sets_call {R : Result → Shared → Prop} (fn : Fn s.heap f "_law_sets" (stmtAt pg 3) cd) (lim : s.heap.NoLimit) (hr : A.depth < recursionLimit) (hh : A.handled = none)
    (hl : s.heap.get? l = some (listOf vs.toArray k)) (ha : All2 RepI vs X) (hz : X.length < 1000000)
    (hR : ∀ s' D us j, Grow s s' → s.heap.get? D = none → s'.heap.get? D = some (listOf us.toArray j) → All2 (fun u n => RS prog w u n s'.heap) us X → R (.ok (.ret (.ref D))) s') :
    codeAny (model prog w) A (.call (.ref f) ⟨[.ref l], []⟩) R s := by
  refine callFn (binds := [("numbers", .ref l)]) fn lim hr (fun _ _ _ _ => rfl) (locs rfl) (fun s₁ F g => ?_) (by decide)
  obtain ⟨c, o, vs', tq, ec, hoc, hdc, _⟩ := fn.2
  refine wpAny_mono (E := No) ?_ (fun _ _ q => q) fun _ _ q => q.elim
  refine wpAny_execs_cons (wpAny_Return_some ?_)
  refine listComp1 (RA := RepI) (RO := RS prog w) (X := X) (p := fun _ => true) (f := fun n => n) (cl := []) hh (fun u b h h' => RS.mono) (ld F rfl (srcList (.refl _) (g.keep _ _ hl) ha)) hz ?_ ?_ ?_
  · intro v a s₂ Lc m g₂ rv hn hv
    exact conds_nil ⟨.refl _, rfl⟩
  · rintro v a s₂ Lc m g₂ ⟨t, rfl⟩ _ hn hv
    refine setLit2 (n1 := a) (n2 := -1 - a) ⟨c, o, vs', ec, g₂.keep _ _ (g.keep _ _ hoc), hdc⟩ (by omega) (fun s₃ g₃ => EvI.name (hn.keeps g₃.keep) hv) (fun s₃ g₃ => EvI.sub (EvI.neg EvI.const) fun s₄ g₄ => EvI.name (hn.keeps (g₃.trans g₄).keep) hv) fun s₃ D g₃ nD hS => ⟨g₃, ⟨D, rfl, hS⟩, fun c hc => ?_⟩
    rw [List.mem_singleton.mp hc]
    obtain ⟨o', _, _, _, ho', _⟩ := hS
    exact ⟨(by rw [ho']; exact fun q => by cases q), .inl nD⟩
  · intro s₂ D us j g₂ nD hD ha' _ _
    refine hR s₂ D us j (g.trans g₂) ?_ hD (by rw [List.filter_eq_self.mpr fun _ _ => rfl, List.map_id'] at ha'; exact ha')
    cases q : s.heap.get? D with
    | none => rfl
    | some o => rw [g.keep _ _ q] at nD; cases nD
end
open PySem PySem.W PyProof.Rows PySem.Calls PySem.SeqAt

def key (n : Int) : Int := if -1 - n > n then -1 - n else n
def runStep (G : List (List Int)) (n : Int) : List (List Int) := match G.reverse with
  | [] => [[n]]
  | g :: r => if key n = key (g.headD 0) then r.reverse ++ [g ++ [n]] else G ++ [[n]]
theorem runStep_nil (n : Int) : runStep [] n = [[n]] := rfl
theorem runStep_snoc (G : List (List Int)) (g : List Int) (n : Int) : runStep (G ++ [g]) n = if key n = key (g.headD 0) then G ++ [g ++ [n]] else G ++ [g] ++ [[n]] := by simp [runStep]
def runsOf (X : List Int) : List (List Int) := X.foldl runStep []

theorem runStep_flat (G : List (List Int)) (n : Int) : (runStep G n).flatten = G.flatten ++ [n] := by
  rcases List.eq_nil_or_concat G with e | ⟨G', g', e⟩
  · subst e; rfl
  · rw [List.concat_eq_append] at e
    subst e
    rw [runStep_snoc]
    split <;> simp
theorem runs_flat (X : List Int) : (runsOf X).flatten = X := by
  have : ∀ (X : List Int) (G : List (List Int)), (X.foldl runStep G).flatten = G.flatten ++ X := by
    intro X
    induction X with
    | nil => intro G; simp
    | cons x X ih => intro G; rw [List.foldl_cons, ih, runStep_flat]; simp
  exact (this X []).trans (by simp)

/-- the rows at cs -/
def Rows (h : Heap) (cs : List Addr) (G : List (List Int)) : Prop := All2 (fun c g => ∃ vs n, h.get? c = some (listOf vs.toArray n) ∧ All2 RepI vs g) cs G

theorem Rows.keep {h h' : Heap} {cs : List Addr} {G : List (List Int)} (x : Rows h cs G) (k : ∀ c ∈ cs, ∀ o, h.get? c = some o → h'.get? c = some o) : Rows h' cs G :=
  All2.mono x fun c _ hc ⟨vs, n, e, r⟩ => ⟨vs, n, k c hc _ e, r⟩

structure RunsJ (s₀ : Shared) (L aR it : Addr) (cs : List Addr) (G : List (List Int)) (s : Shared) : Prop where
  R : ∃ j, s.heap.get? aR = some (listOf (cs.map Value.ref).toArray j)
  rows : Rows s.heap cs G
  off : ∀ c ∈ cs, s₀.heap.get? c = none ∧ c ≠ L ∧ c ≠ aR ∧ c ≠ it
  nodup : cs.Nodup
  full : ∀ g ∈ G, g ≠ []
  os : s.os = s₀.os
  gens : s.gens = s₀.gens

section
variable {prog : Program} {w : World} {A : Around} {s : Shared} {f l : Addr} {cd : Value} {vs : List Value} {X : List Int} {k : Nat}

theorem runs_call {R : Result → Shared → Prop} (fn : Fn s.heap f "_law_runs" (stmtAt pg 4) cd) (lim : s.heap.NoLimit) (hr : A.depth < recursionLimit) (hh : A.handled = none) (hu : A.units < 7000) (hb : Bn s.heap "max" (.builtin "max"))
    (hl : s.heap.get? l = some (listOf vs.toArray k)) (ha : All2 RepI vs X) (hz : X.length < 1000)
    (hR : ∀ s' D cs j, Grow s s' → s.heap.get? D = none → s'.heap.get? D = some (listOf (cs.map Value.ref).toArray j) → Rows s'.heap cs (runsOf X) → (∀ c ∈ cs, s.heap.get? c = none) → R (.ok (.ret (.ref D))) s') :
    codeAny (model prog w) A (.call (.ref f) ⟨[.ref l], []⟩) R s := by
  refine callFn (binds := [("numbers", .ref l)]) fn lim hr (fun _ _ _ _ => rfl) (locs rfl) (fun s₁ F g => ?_) (by decide)
  refine wpAny_mono (E := No) ?_ (fun _ _ q => q) fun _ _ q => q.elim
  generalize hL : s.heap.objs.size = L at F ⊢
  have nL : s.heap.get? L = none := hL ▸ Heap.get?_none_of_le (Nat.le_refl _)
  -- runs = []
  refine wpAny_execs_cons (wpAny_Assign_Name (List_ (spliced_none (newList_ fun s₂ aR g₂ gR nR => st_ (frGrow F g₂) fun s₃ F₃ g₃ => ?_))))
  have lL : s₁.heap.get? L ≠ none := fun q => by
    obtain ⟨o, _, _, e, _⟩ := F.ns
    rw [e] at q; cases q
  have RL : aR ≠ L := fun q => lL (q ▸ nR)
  have nR₀ : s.heap.get? aR = none := by
    cases q : s.heap.get? aR with
    | none => rfl
    | some o => rw [g.keep _ _ q] at nR; cases nR
  have gR₃ := g₃.keep _ _ RL gR
  have hl₃ : s₃.heap.get? l = some (listOf vs.toArray k) := F₃.keep _ _ hl
  have lne : l ≠ L := fun q => by rw [q, nL] at hl; cases hl
  have lR : l ≠ aR := fun q => by rw [q, nR₀] at hl; cases hl
  -- the loop
  refine wpAny_execs_cons (forS (RA := RepI) (X := X) (fps := fun it => [it, l]) F₃ hh (ld F₃ (upd_ne (by decide) rfl) (srcListF (.refl _) hl₃ ha)) ?_
    (fun it k s' m' => m' "runs" = some (.ref aR) ∧ ∃ cs, RunsJ s L aR it cs (runsOf (X.take k)) s' ∧ cs.length ≤ k) ?_ ?_ ?_ ?_)
  · intro it ni q
    rcases List.mem_cons.mp q with q | q
    · obtain ⟨o, _, _, e, _⟩ := F₃.ns
      rw [q, ni] at e; cases e
    · exact lne (List.mem_singleton.mp q).symm
  · rintro it k s₄ s₅ m' ni ⟨hm, cs, ⟨⟨j, R⟩, rows, off, nd, full, os, gens⟩, hz'⟩ g
    have iR : aR ≠ it := fun q => by rw [← q, gR₃] at ni; cases ni
    exact ⟨hm, cs, ⟨⟨j, g.keep _ _ iR RL R⟩, rows.keep fun c hc o e => g.keep c o (off c hc).2.2.2 (off c hc).2.1 e, off, nd, full, g.os.trans os, g.gens.trans gens⟩, hz'⟩
  · intro it s₄ ni g₄
    refine ⟨upd_same, [], ⟨⟨0, g₄.keep _ _ gR₃⟩, .nil, (fun c hc => by cases hc), .nil, (fun g hg => by cases hg), ?_, ?_⟩, Nat.zero_le _⟩
    · exact g₄.os.trans (g₃.os.trans (g₂.os.trans g.os))
    · exact g₄.gens.trans (g₃.gens.trans (g₂.gens.trans g.gens))
  · rintro it k v s₄ m₁ hk ni iL iz hfp ⟨t, rfl⟩ F₄ ⟨hm, cs, ⟨⟨j, hR'⟩, rows, off, nd, full, os, gens⟩, hcs⟩
    have mR : upd m₁ "n" (.int X[k] t) "runs" = some (.ref aR) := upd_ne (by decide) hm
    have mN : upd m₁ "n" (.int X[k] t) "n" = some (.int X[k] t) := upd_same
    generalize upd m₁ "n" (.int X[k] t) = m₄ at *
    have iR : aR ≠ it := fun q => by rw [← q, gR₃] at ni; cases ni
    have tk : runsOf (X.take (k + 1)) = runStep (runsOf (X.take k)) X[k] := by
      show (X.take (k + 1)).foldl runStep [] = _
      rw [List.take_succ_eq_append_getElem hk, List.foldl_append]; rfl
    have ul : (A.deeper (envOf "_law_runs" (scopeOf (stmtAt pg 4)) L f cd)).units < cLine := Nat.lt_of_lt_of_le (show A.units + 3 < 9000 by omega) (by decide)
    have bR : s.heap.get? aR = none := nR₀
    have hRl : l ≠ it := fun q => by rw [← q, hl₃] at ni; cases ni
    generalize hG : runsOf (X.take k) = G at *
    have lcs : cs.length = G.length := All2.length rows
    -- a new row
    have fin : ∀ s₆ s₇ s₈ c n', Grow s₄ s₆ → Grow s₆ s₇ → s₇.heap.get? c = some (listOf [Value.int X[k] t].toArray 0) → s₆.heap.get? c = none → ExL aR s₇ s₈ → s₈.heap.get? aR = some (listOf (cs.map Value.ref ++ [Value.ref c]).toArray n') →
        runsOf (X.take (k + 1)) = G ++ [[X[k]]] →
        (Flow.next = .next ∧ Stay [it, l] s₄.heap s₈.heap ∧ ∃ m₃, Fr s.heap L s₈.heap m₃ ∧ m₃ "runs" = some (.ref aR) ∧ ∃ cs, RunsJ s L aR it cs (runsOf (X.take (k + 1))) s₈ ∧ cs.length ≤ k + 1) := by
      intro s₆ s₇ s₈ c n' g₆ g₇ hc nc g₈ hR₈ e
      have g47 := g₆.trans g₇
      have F₈ := frExL (frGrow F₄ g47) g₈ (Ne.symm RL) bR
      have nc₄ : s₄.heap.get? c = none := by
        cases q : s₄.heap.get? c with
        | none => rfl
        | some o => rw [g₆.keep _ _ q] at nc; cases nc
      have cR : c ≠ aR := fun q => by rw [q, hR'] at nc₄; cases nc₄
      have old : ∀ d ∈ cs, s₄.heap.get? d ≠ none := by
        have : ∀ {cs : List Addr} {G : List (List Int)}, Rows s₄.heap cs G → ∀ d ∈ cs, s₄.heap.get? d ≠ none := by
          intro cs G h
          induction h with
          | nil => intro d hd; cases hd
          | cons r _ ih =>
            intro d hd
            rcases List.mem_cons.mp hd with rfl | hd
            · obtain ⟨_, _, e, _⟩ := r; rw [e]; exact fun q => by cases q
            · exact ih d hd
        exact this rows
      refine ⟨rfl, fun b hb o q => g₈.keep b o (fun r => ?_) (g47.keep b o q), m₄, F₈, mR, cs ++ [c], ⟨⟨n', by rw [List.map_append]; exact hR₈⟩, ?_, ?_, ?_, ?_, ?_, ?_⟩, by simp; omega⟩
      · rcases List.mem_cons.mp hb with q' | q'
        · exact iR (r.symm.trans q')
        · exact lR ((List.mem_singleton.mp q').symm.trans r)
      · rw [e]
        exact (rows.keep fun d hd o q => g₈.keep d o (off d hd).2.2.1 (g47.keep d o q)).append (.cons ⟨_, _, g₈.keep _ _ cR hc, .cons ⟨t, rfl⟩ .nil⟩ .nil)
      · intro d hd
        rcases List.mem_append.mp hd with hd | hd
        · exact off d hd
        · rw [List.mem_singleton.mp hd]
          refine ⟨?_, fun q => ?_, cR, fun q => iz (by rw [← q]; exact nc₄)⟩
          · cases q : s.heap.get? c with
            | none => rfl
            | some o => rw [F₄.keep _ _ q] at nc₄; cases nc₄
          · obtain ⟨o, _, _, e, _⟩ := F₄.ns
            rw [q, e] at nc₄; cases nc₄
      · rw [List.nodup_append]
        refine ⟨nd, by simp, fun x hx y hy q => ?_⟩
        rw [List.mem_singleton.mp hy] at q
        exact old x hx (q ▸ nc₄)
      · intro g' hg
        rw [e] at hg
        rcases List.mem_append.mp hg with hg | hg
        · exact full g' hg
        · rw [List.mem_singleton.mp hg]; simp
      · exact g₈.os.trans (g47.os.trans os)
      · exact g₈.gens.trans (g47.gens.trans gens)
    -- runs != []
    refine wpAny_execs_cons (wpAny_If (isTrue_and (wpAny_isTrue_Compare1 (ld F₄ mR (List_ (spliced_none (newList_ fun s₅ B g₅ gB nB => ?_)))))))
    refine cmp_ofNotEq (neEmpty (g₅.keep _ _ hR') gB ul _ _ _ _ (wpAny_truthy_bool ?_))
    have F₅ := frGrow F₄ g₅
    rcases List.eq_nil_or_concat G with e | ⟨G', g', e⟩
    · subst e
      cases rows
      rw [if_neg (by decide)]
      rw [if_neg (by decide)]
      refine wpAny_execs_cons (append_ F₅ mR (g₅.keep _ _ hR') (by simp) (List_ (spliced_more (ld F₅ mN (spliced_none (newList_ fun s₇ c g₇ hc nc => ⟨g₇, fun s₈ g₈ hR₈ => ?_⟩))))))
      repeat refine wpAny_execs_nil ?_
      exact .inl (fin s₅ s₇ s₈ c _ g₅ g₇ hc nc g₈ hR₈ (tk.trans rfl))
    · rw [List.concat_eq_append] at e
      subst e
      obtain ⟨cs', c, rfl, rows', vs', n', hc, hav⟩ := All2.snoc rows
      have ne : ((cs' ++ [c]).map Value.ref).isEmpty = false := by simp
      rw [ne]
      rw [if_pos (by decide)]
      have full' := full g' (by simp)
      obtain ⟨a0, g'', rfl⟩ : ∃ a0 g'', g' = a0 :: g'' := by
        cases g' with
        | nil => exact absurd rfl full'
        | cons a g => exact ⟨a, g, rfl⟩
      obtain ⟨v0, vs'', rfl, ⟨t0, rfl⟩, hav''⟩ : ∃ v0 vs'', vs' = v0 :: vs'' ∧ RepI v0 a0 ∧ All2 RepI vs'' g'' := by
        cases hav with
        | cons r q => exact ⟨_, _, rfl, r, q⟩
      rw [List.map_append] at hR'
      have lcs' : cs'.length < 1000 := by simp at hcs; omega
      have lastV : ∀ {s₆ : Shared} {k1 : Nat} {p1 p2 p3 p4 : Pos}, Grow s₄ s₆ → EvV prog w (A.deeper (envOf "_law_runs" (scopeOf (stmtAt pg 4)) L f cd)) (envOf "_law_runs" (scopeOf (stmtAt pg 4)) L f cd) (.Subscript (.Name "runs" p1) (.UnaryOp .USub (.Constant (.int 1) k1 p2) p3) p4) (.ref c) s₆ :=
        fun g => EvV.last (EvV.name (frGrow F₄ g).ns mR) (g.keep _ _ hR') (by simp; omega)
      have maxB : ∀ {s₆ : Shared} {p : Pos}, Grow s₄ s₆ → wpAny (model prog w) (A.deeper (envOf "_law_runs" (scopeOf (stmtAt pg 4)) L f cd)) (eval (.Name "max" p) (envOf "_law_runs" (scopeOf (stmtAt pg 4)) L f cd)) (fun v s' => v = .builtin "max" ∧ s' = s₆) No s₆ :=
        fun g => nameB (frGrow F₄ g) hb ⟨rfl, rfl⟩
      have nI : ∀ {s₆ : Shared} {p : Pos}, Grow s₄ s₆ → EvI prog w (A.deeper (envOf "_law_runs" (scopeOf (stmtAt pg 4)) L f cd)) (envOf "_law_runs" (scopeOf (stmtAt pg 4)) L f cd) (.Name "n" p) X[k] s₆ := fun g => EvI.name (frGrow F₄ g).ns mN
      have hI : ∀ {s₆ : Shared} {k1 k2 : Nat} {p1 p2 p3 p4 p5 p6 : Pos}, Grow s₄ s₆ → EvI prog w (A.deeper (envOf "_law_runs" (scopeOf (stmtAt pg 4)) L f cd)) (envOf "_law_runs" (scopeOf (stmtAt pg 4)) L f cd) (.Subscript (.Subscript (.Name "runs" p1) (.UnaryOp .USub (.Constant (.int 1) k1 p2) p3) p4) (.Constant (.int 0) k2 p5) p6) a0 s₆ :=
        fun g => (EvV.head (lastV g) (g.keep _ _ hc)).int
      refine isTrue_and (wpAny_isTrue_Compare1 ?_)
      have hh' : (A.deeper (envOf "_law_runs" (scopeOf (stmtAt pg 4)) L f cd)).handled = none := hh
      refine EvI.use (EvI.max hh' (maxB g₅) (nI g₅) fun s₆ g₆ => EvI.sub (EvI.neg EvI.const) fun s₇ g₇ => nI (g₅.trans (g₆.trans g₇))) fun s₆ t6 g₆ => ?_
      refine EvI.use (EvI.max hh' (maxB (g₅.trans g₆)) (hI (g₅.trans g₆)) fun s₇ g₇ => EvI.sub (EvI.neg EvI.const) fun s₈ g₈ => hI (g₅.trans (g₆.trans (g₇.trans g₈)))) fun s₇ t7 g₇ => ?_
      refine eq_int (wpAny_truthy_bool ?_)
      have g47 := g₅.trans (g₆.trans g₇)
      have F₇ := frGrow F₄ g47
      have tk' := tk.trans (runStep_snoc G' (a0 :: g'') X[k])
      rw [List.headD_cons] at tk'
      have lv : (Value.int a0 t0 :: vs'').length < 1000000 := by
        have e1 := (All2.cons (R := RepI) (show RepI (.int a0 t0) a0 from ⟨t0, rfl⟩) hav'').length
        have e2 := runs_flat (X.take k)
        rw [hG] at e2
        have e3 := congrArg List.length e2
        simp at e3 e1 ⊢
        omega
      by_cases hkey : key X[k] = key a0
      · have : ((if -1 - X[k] > X[k] then -1 - X[k] else X[k]) == (if -1 - a0 > a0 then -1 - a0 else a0)) = true := beq_iff_eq.mpr hkey
        rw [this, if_pos rfl]
        refine isTrue_and_nil ?_
        rw [if_pos rfl]
        rw [if_pos hkey] at tk'
        have hc₇ := g47.keep _ _ hc
        refine wpAny_execs_cons (appendAny (lastV g47) hc₇ lv fun s₈ g₈ => ld (frGrow F₇ g₈) mN ⟨.refl _, fun s₉ g₉ hc₉ => ?_⟩)
        repeat refine wpAny_execs_nil ?_
        have g48 := g47.trans g₈
        obtain ⟨c0, c1, c2, c3⟩ := off c (by simp)
        refine .inl ⟨rfl, fun b hb o q => g₉.keep b o (fun r => ?_) (g48.keep b o q), m₄, frExL (frGrow F₇ g₈) g₉ (Ne.symm c1) c0, mR, cs' ++ [c], ⟨⟨j, by rw [List.map_append]; exact g₉.keep _ _ (Ne.symm c2) (g48.keep _ _ hR')⟩, ?_, off, nd, ?_, ?_, ?_⟩, by omega⟩
        · rcases List.mem_cons.mp hb with q' | q'
          · exact c3 (r.symm.trans q')
          · rw [List.mem_singleton.mp q'] at r
            rw [← r] at c0
            rw [hl] at c0; cases c0
        · rw [tk']
          refine All2.append (rows'.mono fun d g hd ⟨vs, n, e, r⟩ => ⟨vs, n, g₉.keep d _ (fun q => ?_) (g48.keep _ _ e), r⟩) (.cons ⟨_, _, hc₉, ?_⟩ .nil)
          · rw [List.nodup_append] at nd
            exact nd.2.2 d hd c (.head _) q
          · exact (All2.cons ⟨t0, rfl⟩ hav'').append (.cons ⟨t, rfl⟩ .nil)
        · intro g hg
          rw [tk'] at hg
          rcases List.mem_append.mp hg with hg | hg
          · exact full g (by simp [hg])
          · rw [List.mem_singleton.mp hg]; simp
        · exact g₉.os.trans (g48.os.trans os)
        · exact g₉.gens.trans (g48.gens.trans gens)
      · have : ((if -1 - X[k] > X[k] then -1 - X[k] else X[k]) == (if -1 - a0 > a0 then -1 - a0 else a0)) = false := beq_eq_false_iff_ne.mpr hkey
        rw [this, if_neg (by decide), if_neg (by decide)]
        rw [if_neg hkey] at tk'
        have hR₇ : s₇.heap.get? aR = some (listOf ((cs' ++ [c]).map Value.ref).toArray j) := by rw [List.map_append]; exact g47.keep _ _ hR'
        refine wpAny_execs_cons (append_ F₇ mR hR₇ (by simp; omega) (List_ (spliced_more (ld F₇ mN (spliced_none (newList_ fun s₈ c' g₈ hc nc => ⟨g₈, fun s₉ g₉ hR₉ => ?_⟩))))))
        repeat refine wpAny_execs_nil ?_
        exact .inl (fin s₇ s₈ s₉ c' _ g47 g₈ hc nc g₉ hR₉ tk')
  · rintro it s' m' ni F' ⟨hm, cs, J, _⟩
    rw [List.take_length] at J
    refine wpAny_execs_cons (wpAny_Return_some (ld F' hm ?_))
    obtain ⟨j, hj⟩ := J.R
    exact hR s' aR cs j ⟨F'.keep, J.os, J.gens⟩ nR₀ hj J.rows fun c hc => (J.off c hc).1
end
open PySem PySem.W PyProof.Rows PySem.Calls PySem.SeqAt

/-! the plain law -/
def eqK (n m : Int) : Bool := key n == key m
theorem eqK_iff (n m : Int) : eqK n m = true ↔ ∀ k, (decide (k = n) || decide (k = -1 - n)) = true → (decide (k = m) || decide (k = -1 - m)) = true := by
  simp only [eqK, key, beq_iff_eq, Bool.or_eq_true, decide_eq_true_eq]
  constructor
  · intro h k hk
    split at h <;> split at h <;> omega
  · intro h
    have := h n (.inl rfl)
    split <;> split <;> omega

theorem foldl_snoc (xs : List Int) : ∀ (G : List (List Int)) (g : List Int), xs.foldl runStep (G ++ [g]) = G ++ xs.foldl runStep [g] := by
  induction xs with
  | nil => intro G g; rfl
  | cons n xs ih =>
    intro G g
    rw [List.foldl_cons, List.foldl_cons, runStep_snoc]
    have e := runStep_snoc [] g n
    rw [List.nil_append] at e
    rw [e]
    split
    · rw [ih, List.nil_append]
    · rw [ih (G ++ [g]), ih [g]]; simp

theorem foldl_one (x : Int) (xs : List Int) : ∀ (g : List Int), g.headD 0 = x → g ≠ [] → xs.foldl runStep [g] = (g ++ xs.takeWhile fun z => eqK z x) :: runsOf (xs.dropWhile fun z => eqK z x) := by
  induction xs with
  | nil => intro g _ _; simp [runsOf]
  | cons n xs ih =>
    intro g hg hne
    rw [List.foldl_cons]
    have e := runStep_snoc [] g n
    rw [List.nil_append] at e
    rw [e, hg]
    by_cases hk : key n = key x
    · have hk' : eqK n x = true := by simp [eqK, hk]
      rw [if_pos hk, List.nil_append, ih (g ++ [n]) (by cases g <;> simp_all) (by simp), List.takeWhile_cons, List.dropWhile_cons, if_pos hk', if_pos hk']
      simp
    · have hk' : ¬ eqK n x = true := by simp [eqK, hk]
      rw [if_neg hk, List.takeWhile_cons, List.dropWhile_cons, if_neg hk', if_neg hk', foldl_snoc]
      simp [runsOf]; rfl
theorem runs_cons (x : Int) (xs : List Int) : runsOf (x :: xs) = (x :: xs.takeWhile fun z => eqK z x) :: runsOf (xs.dropWhile fun z => eqK z x) := by
  have := foldl_one x xs [x] rfl (by simp)
  exact this

theorem plain05 : ∀ (N : Nat) (X Y : List Int), X.length + Y.length ≤ N → sld (fun _ _ => some false) (fun _ _ => false) eqK X Y = some (((runsOf X).drop (runsOf Y).length).flatten, ((runsOf Y).drop (runsOf X).length).flatten) := by
  intro N
  induction N with
  | zero =>
    intro X Y h
    cases X with
    | nil => cases Y with
      | nil => rw [sld_nil]; rfl
      | cons _ _ => simp at h
    | cons _ _ => simp at h
  | succ N ih =>
    intro X Y h
    cases X with
    | nil => rw [sld_nil]; simp [runsOf]; rw [← runsOf, runs_flat]
    | cons x xs => cases Y with
      | nil =>
        rw [sld_nil']
        have : (runsOf []).length = 0 := rfl
        rw [this, List.drop_zero, runs_flat]
        simp [runsOf]
      | cons y ys =>
        rw [sld_cons]
        have h1 := dropWhile_len (fun z => eqK z x) xs
        have h2 := dropWhile_len (fun z => eqK z y) ys
        simp only [List.length_cons] at h
        dsimp only
        rw [if_neg (by decide), ih _ _ (by omega), runs_cons x xs, runs_cons y ys]
        simp

/-! the comparisons of the sets -/
section
variable {prog : Program} {w : World} {base : Heap} {L : Addr} {m : Str → Option Value} {h₀ : Heap}

theorem RS.notL {u : Value} {n : Int} {h : Heap} (x : RS prog w u n h) (F : Fr base L h m) : ∀ c ∈ rf u, c ≠ L := by
  obtain ⟨c, rfl, o, es, ep, t, ho, _, hd, _⟩ := x
  intro c' hc q
  rw [List.mem_singleton.mp hc] at q
  obtain ⟨_, _, o', ho', hd'⟩ := frDict F
  rw [q, ho'] at ho; cases ho; rw [hd'] at hd; cases hd
theorem RS.kp {u : Value} {n : Int} {h : Heap} (x : RS prog w u n h₀) (F : Fr base L h₀ m) (k : Kp [L] h₀ h) : RS prog w u n h :=
  x.mono fun c hc o e => k.keep c o e fun q => x.notL F c hc (List.mem_singleton.mp q)

theorem uLine {n : Nat} (h : n < 9000) : n < cLine := Nat.lt_of_lt_of_le h (by decide)

theorem eqS (F : Fr base L h₀ m) : EqOk prog w [L] h₀ (fun v n => RS prog w v n h₀) eqK := by
  intro A E s Q v u x y kp hu rv ru h
  obtain ⟨a, rfl, ha⟩ := rv.kp F kp
  obtain ⟨b, rfl, hb⟩ := ru.kp F kp
  exact cmp_ofEq (rcSet ha hb (eqK_iff x y) (uLine hu) (h _ (.refl _)))
theorem ltS (F : Fr base L h₀ m) : LtOk prog w [L] h₀ (fun v n => RS prog w v n h₀) (fun _ _ => some false) := by
  intro A E s Q v u x y kp hu hh rv ru h _
  obtain ⟨a, rfl, ha⟩ := rv.kp F kp
  obtain ⟨b, rfl, hb⟩ := ru.kp F kp
  exact ltSet ha hb (Nat.le_refl _) (uLine hu) (h _ rfl _ (.refl _))
theorem gtS (F : Fr base L h₀ m) : GtOk prog w [L] h₀ (fun v n => RS prog w v n h₀) (fun _ _ => some false) (fun _ _ => false) := by
  intro A E s Q v u x y kp hu hh rv ru _ h
  obtain ⟨a, rfl, ha⟩ := rv.kp F kp
  obtain ⟨b, rfl, hb⟩ := ru.kp F kp
  exact gtSet ha hb (Nat.le_refl _) (uLine hu) (h _ (.refl _))
end
open PySem PySem.W PyProof.Rows PySem.Calls PySem.SeqAt

def mulA (x : Int) : Nat := ([1, 0, 1, 2, 0] : List Nat).getD (x.fmod 5).toNat 0
def mulB (x : Int) : Nat := ([0, 1, 1, 0, 2] : List Nat).getD (x.fmod 5).toNat 0
def made (mu : Int → Nat) (X : List Int) : List Int := X.flatMap fun x => List.replicate (mu x) (x.fdiv 5)
theorem fmod5 (x : Int) : 0 ≤ x.fmod 5 ∧ x.fmod 5 < 5 := ⟨Int.fmod_nonneg_of_pos x (by decide), Int.fmod_lt_of_pos x (by decide)⟩
theorem five {n : Int} (h : 0 ≤ n) (h' : n < 5) : n = 0 ∨ n = 1 ∨ n = 2 ∨ n = 3 ∨ n = 4 := by omega
theorem mulA_int (x : Int) : ([1, 0, 1, 2, 0] : List Int).getD (x.fmod 5).toNat 0 = ((mulA x : Nat) : Int) := by
  have := fmod5 x
  unfold mulA
  rcases five this.1 this.2 with e | e | e | e | e <;> rw [e] <;> rfl
theorem mulB_int (x : Int) : ([0, 1, 1, 0, 2] : List Int).getD (x.fmod 5).toNat 0 = ((mulB x : Nat) : Int) := by
  have := fmod5 x
  unfold mulB
  rcases five this.1 this.2 with e | e | e | e | e <;> rw [e] <;> rfl
theorem mulA_le (x : Int) : mulA x ≤ 2 := by
  have := fmod5 x
  unfold mulA
  rcases five this.1 this.2 with e | e | e | e | e <;> rw [e] <;> decide
theorem mulB_le (x : Int) : mulB x ≤ 2 := by
  have := fmod5 x
  unfold mulB
  rcases five this.1 this.2 with e | e | e | e | e <;> rw [e] <;> decide
theorem made_len {mu : Int → Nat} (h : ∀ x, mu x ≤ 2) (X : List Int) : (made mu X).length ≤ 2 * X.length := by
  induction X with
  | nil => simp [made]
  | cons x X ih => have := h x; simp [made] at ih ⊢; omega
theorem made_snoc (mu : Int → Nat) (X : List Int) (x : Int) : made mu (X ++ [x]) = made mu X ++ List.replicate (mu x) (x.fdiv 5) := by simp [made]
theorem all2_repl {x : Nat} {a : Int} {t : Tok} : All2 RepI (List.replicate x (Value.int a t)) (List.replicate x a) := by
  induction x with
  | zero => exact .nil
  | succ x ih => exact .cons ⟨t, rfl⟩ ih

theorem Bn.keep {h h' : Heap} {x : Str} {v : Value} (b : Bn h x v) (k : ∀ b o, h.get? b = some o → h'.get? b = some o) : Bn h' x v :=
  let ⟨mg, mb, g, n, b', e⟩ := b; ⟨mg, mb, g.keeps k, n, b'.keeps k, e⟩

section
variable {prog : Program} {w : World} {A : Around} {s : Shared} {base : Heap} {L fa l : Addr} {cd : Value} {m : Str → Option Value} {vs : List Value} {X : List Int} {k : Nat}

/-- the two lists of the script -/
theorem build5 {a1 a2 : Addr} {Q : Flow → Shared → Prop} (F : Fr base L s.heap m) (hh : A.handled = none) (ms : m "script" = some (.ref l)) (m1 : m "first" = some (.ref a1)) (m2 : m "second" = some (.ref a2))
    (hl : base.IsList l vs.toArray) (ha : All2 RepI vs X) (hz : X.length ≤ 63) (h1 : s.heap.get? a1 = some (listOf [].toArray 0)) (h2 : s.heap.get? a2 = some (listOf [].toArray 0))
    (n1 : base.get? a1 = none) (n2 : base.get? a2 = none) (h12 : a1 ≠ a2) (h1L : a1 ≠ L) (h2L : a2 ≠ L)
    (hQ : ∀ s' m' us ws j1 j2, Fr base L s'.heap m' → m' "first" = some (.ref a1) → m' "second" = some (.ref a2) → s'.heap.get? a1 = some (listOf us.toArray j1) → s'.heap.get? a2 = some (listOf ws.toArray j2) →
      All2 RepI us (made mulA X) → All2 RepI ws (made mulB X) → s'.os = s.os → s'.gens = s.gens → Q .next s') :
    wpAny (model prog w) A (exec (nth (bodyOf (stmtAt pg 5)) 2) (envOf "law" (scopeOf (stmtAt pg 5)) L fa cd)) Q No s := by
  obtain ⟨ol, hol, rl⟩ := hl
  have hl' : s.heap.IsList l vs.toArray := ⟨ol, F.keep _ _ hol, rl⟩
  have lL : l ≠ L := fun q => by
    have := F.above
    rw [q] at hol
    exact absurd (Nat.lt_of_lt_of_le (Heap.lt_size hol) this) (Nat.lt_irrefl _)
  have l1 : l ≠ a1 := fun q => by rw [q, n1] at hol; cases hol
  have l2 : l ≠ a2 := fun q => by rw [q, n2] at hol; cases hol
  refine forS (RA := RepI) (X := X) (fps := fun it => [it, l]) F hh (ld F ms (srcListI (.refl _) hl' ha)) ?_
    (fun it k s' m' => m' "first" = some (.ref a1) ∧ m' "second" = some (.ref a2) ∧ ∃ us ws j1 j2, s'.heap.get? a1 = some (listOf us.toArray j1) ∧ s'.heap.get? a2 = some (listOf ws.toArray j2) ∧
      All2 RepI us (made mulA (X.take k)) ∧ All2 RepI ws (made mulB (X.take k)) ∧ s'.os = s.os ∧ s'.gens = s.gens) ?_ ?_ ?_ ?_
  · intro it ni q
    rcases List.mem_cons.mp q with q | q
    · obtain ⟨o, _, _, e, _⟩ := F.ns
      rw [q, ni] at e; cases e
    · exact lL (List.mem_singleton.mp q).symm
  · rintro it k s₄ s₅ m' ni ⟨e1, e2, us, ws, j1, j2, q1, q2, b1, b2, os, gens⟩ g
    have i1 : a1 ≠ it := fun q => by rw [← q, h1] at ni; cases ni
    have i2 : a2 ≠ it := fun q => by rw [← q, h2] at ni; cases ni
    exact ⟨e1, e2, us, ws, j1, j2, g.keep _ _ i1 h1L q1, g.keep _ _ i2 h2L q2, b1, b2, g.os.trans os, g.gens.trans gens⟩
  · intro it s₄ ni g₄
    exact ⟨m1, m2, [], [], 0, 0, g₄.keep _ _ h1, g₄.keep _ _ h2, .nil, .nil, g₄.os, g₄.gens⟩
  · rintro it k v s₄ m₁ hk ni iL iz hfp ⟨t, rfl⟩ F₄ ⟨e1, e2, us, ws, j1, j2, q1, q2, b1, b2, os, gens⟩
    have i1 : a1 ≠ it := fun q => by rw [← q, h1] at ni; cases ni
    have i2 : a2 ≠ it := fun q => by rw [← q, h2] at ni; cases ni
    have mx : upd m₁ "x" (.int X[k] t) "x" = some (.int X[k] t) := upd_same
    have e1' : upd m₁ "x" (.int X[k] t) "first" = some (.ref a1) := upd_ne (by decide) e1
    have e2' : upd m₁ "x" (.int X[k] t) "second" = some (.ref a2) := upd_ne (by decide) e2
    generalize upd m₁ "x" (.int X[k] t) = m₄ at *
    have tk := List.take_succ_eq_append_getElem hk
    have lt1 := made_len mulA_le (X.take k)
    have lt2 := made_len mulB_le (X.take k)
    have lx : (X.take k).length ≤ 63 := by rw [List.length_take]; omega
    have z1 := b1.length
    have z2 := b2.length
    have y1 := mulA_le X[k]
    have y2 := mulB_le X[k]
    refine wpAny_execs_cons (extendMul (a := X[k].fdiv 5) (x := mulA X[k]) (EvV.name F₄.ns e1') q1 (by omega) (fun s₅ g₅ => EvI.div (EvI.name (frGrow F₄ g₅).ns mx) (by decide) (by decide)) (fun s₅ g₅ => ?_) fun s₅ j5 t5 g₅ q5 => ?_)
    · rw [← mulA_int]
      exact EvI.tup5 (fun s₆ g₆ => EvI.mod (EvI.name (frGrow F₄ (g₅.trans g₆)).ns mx) (by decide)) (fmod5 _).1 (fmod5 _).2
    have F₅ := frExL F₄ g₅ (Ne.symm h1L) n1
    have q2' := g₅.keep _ _ (Ne.symm h12) q2
    refine wpAny_execs_cons (extendMul (a := X[k].fdiv 5) (x := mulB X[k]) (EvV.name F₅.ns e2') q2' (by omega) (fun s₆ g₆ => EvI.div (EvI.name (frGrow F₅ g₆).ns mx) (by decide) (by decide)) (fun s₆ g₆ => ?_) fun s₆ j6 t6 g₆ q6 => ?_)
    · rw [← mulB_int]
      exact EvI.tup5 (fun s₇ g₇ => EvI.mod (EvI.name (frGrow F₅ (g₆.trans g₇)).ns mx) (by decide)) (fmod5 _).1 (fmod5 _).2
    have F₆ := frExL F₅ g₆ (Ne.symm h2L) n2
    refine wpAny_execs_nil (.inl ⟨rfl, fun b hb o q => ?_, m₄, F₆, e1', e2', _, _, j5, j6, g₆.keep _ _ h12 q5, q6, ?_, ?_, g₆.os.trans (g₅.os.trans os), g₆.gens.trans (g₅.gens.trans gens)⟩)
    · rcases List.mem_cons.mp hb with rfl | hb
      · exact g₆.keep _ _ (Ne.symm i2) (g₅.keep _ _ (Ne.symm i1) q)
      · rw [List.mem_singleton.mp hb] at q ⊢
        exact g₆.keep _ _ l2 (g₅.keep _ _ l1 q)
    · rw [tk, made_snoc]; exact b1.append all2_repl
    · rw [tk, made_snoc]; exact b2.append all2_repl
  · rintro it s' m' ni F' ⟨e1, e2, us, ws, j1, j2, q1, q2, b1, b2, os, gens⟩
    rw [List.take_length] at b1 b2
    exact hQ s' m' us ws j1 j2 F' e1 e2 q1 q2 b1 b2 os gens
end
open PySem PySem.W PyProof.Rows PySem.Calls PySem.SeqAt

section
variable {prog : Program} {w : World} {A : Around} {s s' : Shared} {base : Heap} {L fa l : Addr} {cd : Value} {m : Str → Option Value} {vs us : List Value} {X : List Int} {k : Nat}

theorem RSs.exL (h : All2 (fun u n => RS prog w u n s.heap) us X) (F : Fr base L s.heap m) (g : ExL L s s') : All2 (fun u n => RS prog w u n s'.heap) us X :=
  h.mono fun u n _ r => r.mono fun c hc o e => g.keep c o (r.notL F c hc) e
theorem RSs.grow (h : All2 (fun u n => RS prog w u n s.heap) us X) (g : Grow s s') : All2 (fun u n => RS prog w u n s'.heap) us X :=
  h.mono fun u n _ r => r.mono fun c _ o e => g.keep c o e
theorem Kp.exL {s s' : Shared} {L : Addr} (k : Kp [L] s.heap s'.heap) (os : s'.os = s.os) (gens : s'.gens = s.gens) : ExL L s s' :=
  ⟨fun b o n e => k.keep b o e fun q => n (List.mem_singleton.mp q), os, gens⟩
theorem rowsRL {h : Heap} {cs : List Addr} {G : List (List Int)} (r : Rows h cs G) : All2 (RL RepI h) (cs.map Value.ref) G := by
  induction r with
  | nil => exact .nil
  | cons r _ ih => obtain ⟨vs, n, e, a⟩ := r; exact .cons ⟨_, vs, n, rfl, e, a⟩ ih
theorem eqK_refl (X : List Int) : eqList eqK X X = true := by
  induction X with
  | nil => rfl
  | cons x X ih => simp [eqList, eqK, ih]
theorem eqRS {A : Around} (hu : A.units < cLine) : ∀ u x v y, RS prog w u x s.heap → RS prog w v y s.heap → EqAt A s u v (eqK x y) := by
  rintro u x v y ⟨a, rfl, ha⟩ ⟨b, rfl, hb⟩
  exact eqAtSet ha hb (eqK_iff x y) hu

theorem runs_len (X : List Int) : (runsOf X).length ≤ X.length := by
  have st : ∀ (G : List (List Int)) (n : Int), (runStep G n).length ≤ G.length + 1 := by
    intro G n
    rcases List.eq_nil_or_concat G with e | ⟨G', g', e⟩
    · subst e; exact Nat.le_refl _
    · rw [List.concat_eq_append] at e
      subst e
      rw [runStep_snoc]
      split <;> simp
  have : ∀ (X : List Int) (G : List (List Int)), (X.foldl runStep G).length ≤ G.length + X.length := by
    intro X
    induction X with
    | nil => intro G; exact Nat.le_refl _
    | cons x X ih => intro G; have := ih (runStep G x); have := st G x; rw [List.foldl_cons, List.length_cons]; omega
  have := this X []
  rw [List.length_nil, Nat.zero_add] at this
  exact this

theorem law05 {f1 f3 f4 : Addr} {c1 c3 c4 : Value} {Q : Flow → Shared → Prop} (F : Fr base L s.heap m) (hh : A.handled = none) (hr : A.depth < recursionLimit) (hu : A.units < 6000)
    (hst : A.frames = some [envOf "law" (scopeOf (stmtAt pg 5)) L fa cd]) (lim : base.NoLimit)
    (ms : m "script" = some (.ref l)) (hl : base.IsList l vs.toArray) (ha : All2 RepI vs X) (hz : X.length ≤ 63)
    (G1 : Gn base "sorted_list_difference" (.ref f1)) (fn1 : Fn base f1 "sorted_list_difference" (stmtAt PySem.Challenge.pw_dn0234_05 1) c1)
    (G3 : Gn base "_law_sets" (.ref f3)) (fn3 : Fn base f3 "_law_sets" (stmtAt pg 3) c3)
    (G4 : Gn base "_law_runs" (.ref f4)) (fn4 : Fn base f4 "_law_runs" (stmtAt pg 4) c4)
    (hI : Bn base "IndexError" (.type "IndexError")) (hM : Bn base "max" (.builtin "max")) (hLn : Bn base "len" (.builtin "len"))
    (hQ : ∀ s' m', Fr base L s'.heap m' → s'.os = s.os → s'.gens = s.gens → Q (.ret (.bool true)) s') :
    wpAny (model prog w) A (execs (bodyOf (stmtAt pg 5)) (envOf "law" (scopeOf (stmtAt pg 5)) L fa cd)) Q No s := by
  have lF : ∀ {s : Shared} {m : Str → Option Value}, Fr base L s.heap m → s.heap.get? L ≠ none := fun F q => by
    obtain ⟨o, _, _, e, _⟩ := F.ns
    rw [e] at q; cases q
  have nb : ∀ {s : Shared} {m : Str → Option Value} {a : Addr}, Fr base L s.heap m → s.heap.get? a = none → base.get? a = none := fun {s m a} F q => by
    cases q' : base.get? a with
    | none => rfl
    | some o => rw [F.keep _ _ q'] at q; cases q
  have neL : ∀ {s : Shared} {m : Str → Option Value} {a : Addr}, Fr base L s.heap m → s.heap.get? a = none → a ≠ L := fun F q r => lF F (r ▸ q)
  -- first = [] ; second = []
  refine wpAny_execs_cons (wpAny_Assign_Name (List_ (spliced_none (newList_ fun s₁ a1 g₁ h1 n1 => st_ (frGrow F g₁) fun s₂ F₂ g₂ => ?_))))
  refine wpAny_execs_cons (wpAny_Assign_Name (List_ (spliced_none (newList_ fun s₃ a2 g₃ h2 n2 => st_ (frGrow F₂ g₃) fun s₄ F₄ g₄ => ?_))))
  have a1L := neL F n1
  have a2L := neL F₂ n2
  have h1₂ := g₂.keep _ _ a1L h1
  have a12 : a1 ≠ a2 := fun q => by rw [q, n2] at h1₂; cases h1₂
  -- the loop
  refine wpAny_execs_cons (build5 F₄ hh (upd_ne (by decide) (upd_ne (by decide) ms)) (upd_ne (by decide) upd_same) upd_same hl ha hz (g₄.keep _ _ a1L (g₃.keep _ _ h1₂)) (g₄.keep _ _ a2L h2) (nb F n1) (nb F₂ n2) a12 a1L a2L fun s₅ m₅ us ws j1 j2 F₅ e1 e2 q1 q2 b1 b2 os₅ gens₅ => ?_)
  have l1 := made_len mulA_le X
  have l2 := made_len mulB_le X
  generalize made mulA X = Y1 at *
  generalize made mulB X = Y2 at *
  -- expected = _law_sets(first)
  refine wpAny_execs_cons (wpAny_Assign_Name (callName F₅ G3 fn3 (spliced_more (ld F₅ e1 (spliced_none ⟨F₅.keep, sets_call (fn3.keep F₅.keep) (lim.keeps F₅.keep) hr hh q1 b1 (by omega) fun s₆ D1 us1 i1 g₆ nD1 hD1 S1 => st_ (frGrow F₅ g₆) fun s₇ F₇ g₇ => ?_⟩)))))
  have D1L := neL F₅ nD1
  have x57 : ExL L s₅ s₇ := g₆.exL.trans g₇
  have S1₇ := RSs.exL S1 (frGrow F₅ g₆) g₇
  have hD1₇ := g₇.keep _ _ D1L hD1
  -- actual = _law_sets(second)
  have e2₇ : upd m₅ "expected" (.ref D1) "second" = some (.ref a2) := upd_ne (by decide) e2
  refine wpAny_execs_cons (wpAny_Assign_Name (callName F₇ G3 fn3 (spliced_more (ld F₇ e2₇ (spliced_none ⟨F₇.keep, sets_call (fn3.keep F₇.keep) (lim.keeps F₇.keep) hr hh (x57.keep _ _ a2L q2) b2 (by omega) fun s₈ D2 us2 i2 g₈ nD2 hD2 S2 => st_ (frGrow F₇ g₈) fun s₉ F₉ g₉ => ?_⟩)))))
  have D2L := neL F₇ nD2
  have x79 : ExL L s₇ s₉ := g₈.exL.trans g₉
  have x59 := x57.trans x79
  have S2₉ := RSs.exL S2 (frGrow F₇ g₈) g₉
  have S1₉ := RSs.exL S1₇ F₇ x79
  have hD2₉ := g₉.keep _ _ D2L hD2
  have hD1₉ := x79.keep _ _ D1L hD1₇
  -- told = sorted_list_difference(expected, actual)
  have mE : upd (upd m₅ "expected" (.ref D1)) "actual" (.ref D2) "expected" = some (.ref D1) := upd_ne (by decide) upd_same
  have mA : upd (upd m₅ "expected" (.ref D1)) "actual" (.ref D2) "actual" = some (.ref D2) := upd_same
  have m1 : upd (upd m₅ "expected" (.ref D1)) "actual" (.ref D2) "first" = some (.ref a1) := upd_ne (by decide) (upd_ne (by decide) e1)
  have m2 : upd (upd m₅ "expected" (.ref D1)) "actual" (.ref D2) "second" = some (.ref a2) := upd_ne (by decide) (upd_ne (by decide) e2)
  generalize upd (upd m₅ "expected" (.ref D1)) "actual" (.ref D2) = m₉ at *
  have B : Below A base [envOf "law" (scopeOf (stmtAt pg 5)) L fa cd] s₉.heap := ⟨hst, F₉.keep, mkFrames (outer := []) (h₀ := s₉.heap) trivial (Kp.refl [] _) F₉⟩
  have szb : base.objs.size ≤ s₉.heap.objs.size := Nat.le_trans F₉.above (Nat.le_of_lt F₉.ns.lt)
  have P := plain05 _ Y1 Y2 (Nat.le_refl _)
  refine wpAny_execs_cons (wpAny_Assign_Name (callName F₉ G1 fn1 (spliced_more (ld F₉ mE (spliced_more (ld F₉ mA (spliced_none ⟨F₉.keep,
    sld_call (Rep := fun v n => RS prog w v n s₉.heap) (X := Y1) (Y := Y2) (lt := fun _ _ => some false) (gt := fun _ _ => false) (eq := eqK) (outer := [envOf "law" (scopeOf (stmtAt pg 5)) L fa cd])
      (sqList hD1₉ (fun q => D1L (List.mem_singleton.mp q)) S1₉ (by omega)) (sqList hD2₉ (fun q => D2L (List.mem_singleton.mp q)) S2₉ (by omega)) (eqS F₉) (ltS F₉) (gtS F₉) (by omega) hr hh B szb lim hI fn1 ?_ ?_⟩)))))))
  case refine_2 => intro hn; rw [P] at hn; cases hn
  intro s₁₀ t aM aU mm mu n1' n2' kp os gens ht nt hMM hUU nM nU MU fi
  obtain ⟨r, er, am, au⟩ := fi
  rw [P] at er
  cases er
  have x9a : ExL L s₉ s₁₀ := Kp.exL kp os gens
  have F₁₀ : Fr base L s₁₀.heap m₉ := frKp (S := []) F₉ kp (fun _ hb => by cases hb)
  refine st_ F₁₀ fun s₁₁ F₁₁ g₁₁ => ?_
  have x9b : ExL L s₉ s₁₁ := x9a.trans g₁₁
  have tL := neL F₉ nt
  have ML := neL F₉ nM
  have UL := neL F₉ nU
  have ht' := g₁₁.keep _ _ tL ht
  have hM' := g₁₁.keep _ _ ML hMM
  have hU' := g₁₁.keep _ _ UL hUU
  have am' := RSs.exL am F₉ x9b
  have au' := RSs.exL au F₉ x9b
  have S1b := RSs.exL S1₉ F₉ x9b
  have S2b := RSs.exL S2₉ F₉ x9b
  have mT : upd m₉ "told" (.ref t) "told" = some (.ref t) := upd_same
  have mE' : upd m₉ "told" (.ref t) "expected" = some (.ref D1) := upd_ne (by decide) mE
  have mA' : upd m₉ "told" (.ref t) "actual" = some (.ref D2) := upd_ne (by decide) mA
  have m1' : upd m₉ "told" (.ref t) "first" = some (.ref a1) := upd_ne (by decide) m1
  have m2' : upd m₉ "told" (.ref t) "second" = some (.ref a2) := upd_ne (by decide) m2
  generalize upd m₉ "told" (.ref t) = mb at *
  have x5b := x59.trans x9b
  -- ones = _law_runs(first)
  refine wpAny_execs_cons (wpAny_Assign_Name (callName F₁₁ G4 fn4 (spliced_more (ld F₁₁ m1' (spliced_none ⟨F₁₁.keep, runs_call (fn4.keep F₁₁.keep) (lim.keeps F₁₁.keep) hr hh (by omega) (hM.keep F₁₁.keep) (x5b.keep _ _ a1L q1) b1 (by omega) fun s₁₂ R1 cs1 i3 g₁₂ nR1 hR1 rw1 nc1 => st_ (frGrow F₁₁ g₁₂) fun s₁₃ F₁₃ g₁₃ => ?_⟩)))))
  have xbd : ExL L s₁₁ s₁₃ := g₁₂.exL.trans g₁₃
  have R1L := neL F₁₁ nR1
  have hR1' := g₁₃.keep _ _ R1L hR1
  have rw1' := rw1.keep fun c hc o e => g₁₃.keep c o (neL F₁₁ (nc1 c hc)) e
  -- twos = _law_runs(second)
  refine wpAny_execs_cons (wpAny_Assign_Name (callName F₁₃ G4 fn4 (spliced_more (ld F₁₃ (upd_ne (by decide) m2') (spliced_none ⟨F₁₃.keep, runs_call (fn4.keep F₁₃.keep) (lim.keeps F₁₃.keep) hr hh (by omega) (hM.keep F₁₃.keep) ((x5b.trans xbd).keep _ _ a2L q2) b2 (by omega) fun s₁₄ R2 cs2 i4 g₁₄ nR2 hR2 rw2 nc2 => st_ (frGrow F₁₃ g₁₄) fun s₁₅ F₁₅ g₁₅ => ?_⟩)))))
  have xdf : ExL L s₁₃ s₁₅ := g₁₄.exL.trans g₁₅
  have R2L := neL F₁₃ nR2
  have hR2f := g₁₅.keep _ _ R2L hR2
  have hR1f := xdf.keep _ _ R1L hR1'
  have rw2f := rw2.keep fun c hc o e => g₁₅.keep c o (neL F₁₃ (nc2 c hc)) e
  have rw1f := rw1'.keep fun c hc o e => xdf.keep c o (neL F₁₁ (nc1 c hc)) e
  have xbf := xbd.trans xdf
  have k1 : upd (upd mb "ones" (.ref R1)) "twos" (.ref R2) "ones" = some (.ref R1) := upd_ne (by decide) upd_same
  have k2 : upd (upd mb "ones" (.ref R1)) "twos" (.ref R2) "twos" = some (.ref R2) := upd_same
  have k3 : upd (upd mb "ones" (.ref R1)) "twos" (.ref R2) "told" = some (.ref t) := upd_ne (by decide) (upd_ne (by decide) mT)
  have k4 : upd (upd mb "ones" (.ref R1)) "twos" (.ref R2) "expected" = some (.ref D1) := upd_ne (by decide) (upd_ne (by decide) mE')
  have k5 : upd (upd mb "ones" (.ref R1)) "twos" (.ref R2) "actual" = some (.ref D2) := upd_ne (by decide) (upd_ne (by decide) mA')
  have k6 : upd (upd mb "ones" (.ref R1)) "twos" (.ref R2) "first" = some (.ref a1) := upd_ne (by decide) (upd_ne (by decide) m1')
  have k7 : upd (upd mb "ones" (.ref R1)) "twos" (.ref R2) "second" = some (.ref a2) := upd_ne (by decide) (upd_ne (by decide) m2')
  generalize upd (upd mb "ones" (.ref R1)) "twos" (.ref R2) = mf at *
  have f1 := runs_flat Y1
  have f2 := runs_flat Y2
  have lc1 : (cs1.map Value.ref).length = (runsOf Y1).length := (rowsRL rw1f).length
  have lc2 : (cs2.map Value.ref).length = (runsOf Y2).length := (rowsRL rw2f).length
  have fu1 := runs_len Y1
  have fu2 := runs_len Y2
  -- missing = [..]
  have hfl : ∀ (G : List (List Int)) (i : Nat), (G.drop i).flatten.length ≤ G.flatten.length := fun G i => flat_sub (List.drop_sublist _ _)
  have hf1 := hfl (runsOf Y1) (runsOf Y2).length
  have hf2 := hfl (runsOf Y2) (runsOf Y1).length
  rw [f1] at hf1
  rw [f2] at hf2
  refine wpAny_execs_cons (assignComp2 (RB := RepI) (X := (runsOf Y1).drop (runsOf Y2).length) (p := fun _ => true) (cl := []) F₁₅ hh (fun u b ⟨_, q⟩ => by rw [q]; rfl)
    (sliceFrom (k := (cs2.map Value.ref).length) (EvV.name F₁₅.ns k1) hR1f (by omega) (fun s₁ g => EvI.len (nameB (frGrow F₁₅ g) hLn ⟨rfl, rfl⟩) (EvV.name (frGrow F₁₅ g).ns k2) (g.keep _ _ hR2f) (by omega)) fun s₁ B g nB hB => srcList g hB ?_) (by omega) (fun v a s₁ Lc m' g rv hn hv => conds_nil ⟨.refl _, rfl⟩) fun s₁₆ D3 us3 i5 F₁₆ x16 nD3 hD3 A3 => ?_)
  · rw [lc2]; exact (rowsRL rw1f).drop _
  have hR1g := x16.keep _ _ R1L hR1f
  have hR2g := x16.keep _ _ R2L hR2f
  have rw2g := rw2f.keep fun c hc o e => x16.keep c o (neL F₁₃ (nc2 c hc)) e
  have D3L := neL F₁₅ nD3
  -- unexpected = [..]
  refine wpAny_execs_cons (assignComp2 (RB := RepI) (X := (runsOf Y2).drop (runsOf Y1).length) (p := fun _ => true) (cl := []) F₁₆ hh (fun u b ⟨_, q⟩ => by rw [q]; rfl)
    (sliceFrom (k := (cs1.map Value.ref).length) (EvV.name F₁₆.ns (upd_ne (by decide) k2)) hR2g (by omega) (fun s₁ g => EvI.len (nameB (frGrow F₁₆ g) hLn ⟨rfl, rfl⟩) (EvV.name (frGrow F₁₆ g).ns (upd_ne (by decide) k1)) (g.keep _ _ hR1g) (by omega)) fun s₁ B g nB hB => srcList g hB ?_) (by omega) (fun v a s₁ Lc m' g rv hn hv => conds_nil ⟨.refl _, rfl⟩) fun s₁₇ D4 us4 i6 F₁₇ x17 nD4 hD4 A4 => ?_)
  · rw [lc1]; exact (rowsRL rw2g).drop _
  have D4L := neL F₁₆ nD4
  have hD3h := x17.keep _ _ D3L hD3
  have filt : ∀ G : List (List Int), G.filter (fun _ => true) = G := fun G => List.filter_eq_self.mpr fun _ _ => rfl
  rw [filt] at A3 A4
  have p3 : upd (upd mf "missing" (.ref D3)) "unexpected" (.ref D4) "missing" = some (.ref D3) := upd_ne (by decide) upd_same
  have p4 : upd (upd mf "missing" (.ref D3)) "unexpected" (.ref D4) "unexpected" = some (.ref D4) := upd_same
  have p5 : upd (upd mf "missing" (.ref D3)) "unexpected" (.ref D4) "told" = some (.ref t) := upd_ne (by decide) (upd_ne (by decide) k3)
  have p6 : upd (upd mf "missing" (.ref D3)) "unexpected" (.ref D4) "expected" = some (.ref D1) := upd_ne (by decide) (upd_ne (by decide) k4)
  have p7 : upd (upd mf "missing" (.ref D3)) "unexpected" (.ref D4) "actual" = some (.ref D2) := upd_ne (by decide) (upd_ne (by decide) k5)
  have p8 : upd (upd mf "missing" (.ref D3)) "unexpected" (.ref D4) "first" = some (.ref a1) := upd_ne (by decide) (upd_ne (by decide) k6)
  have p9 : upd (upd mf "missing" (.ref D3)) "unexpected" (.ref D4) "second" = some (.ref a2) := upd_ne (by decide) (upd_ne (by decide) k7)
  generalize upd (upd mf "missing" (.ref D3)) "unexpected" (.ref D4) = mh at *
  have xbh := xbf.trans (x16.trans x17)
  have x5h := x5b.trans xbh
  have x9h := x9b.trans xbh
  have S1h := RSs.exL S1b F₁₁ xbh
  have S2h := RSs.exL S2b F₁₁ xbh
  have amh := RSs.exL am' F₁₁ xbh
  have auh := RSs.exL au' F₁₁ xbh
  have hth := xbh.keep _ _ tL ht'
  have hMh := xbh.keep _ _ ML hM'
  have hUh := xbh.keep _ _ UL hU'
  have hD1h := x9h.keep _ _ D1L hD1₉
  have hD2h := x9h.keep _ _ D2L hD2₉
  have ul : A.units < cLine := uLine (by omega)
  have ul1 : A.in1.units < cLine := uLine (show A.units + 1 < 9000 by omega)
  have ul2 : A.in1.in1.units < cLine := uLine (show A.units + 1 + 1 < 9000 by omega)
  -- expected != _law_sets(first) or actual != _law_sets(second)
  refine wpAny_execs_cons (wpAny_If (isTrue_or (wpAny_isTrue_Compare1 (ld F₁₇ p6 (callName F₁₇ G3 fn3 (spliced_more (ld F₁₇ p8 (spliced_none ⟨F₁₇.keep, sets_call (fn3.keep F₁₇.keep) (lim.keeps F₁₇.keep) hr hh (x5h.keep _ _ a1L q1) b1 (by omega) fun s₁₈ D5 us5 i7 g₁₈ nD5 hD5 S5 => ?_⟩))))))))
  refine cmp_ofNotEq (neList (eq := eqK) (g₁₈.keep _ _ hD1h) hD5 ul (RSs.grow S1h g₁₈) S5 (eqRS ul1) _ _ _ _ (wpAny_truthy_bool ?_))
  rw [eqK_refl, if_neg (by decide)]
  have F₁₈ := frGrow F₁₇ g₁₈
  refine isTrue_or (wpAny_isTrue_Compare1 (ld F₁₈ p7 (callName F₁₈ G3 fn3 (spliced_more (ld F₁₈ p9 (spliced_none ⟨F₁₈.keep, sets_call (fn3.keep F₁₈.keep) (lim.keeps F₁₈.keep) hr hh (g₁₈.keep _ _ (x5h.keep _ _ a2L q2)) b2 (by omega) fun s₁₉ D6 us6 i8 g₁₉ nD6 hD6 S6 => ?_⟩))))))
  refine cmp_ofNotEq (neList (eq := eqK) (g₁₉.keep _ _ (g₁₈.keep _ _ hD2h)) hD6 ul (RSs.grow (RSs.grow S2h g₁₈) g₁₉) S6 (eqRS ul1) _ _ _ _ (wpAny_truthy_bool ?_))
  rw [eqK_refl, if_neg (by decide)]
  refine isTrue_or_nil ?_
  rw [if_neg (by decide)]
  refine wpAny_execs_nil ?_
  have F₁₉ := frGrow F₁₈ g₁₉
  have g17 := g₁₈.trans g₁₉
  -- return told == (_law_sets(missing), _law_sets(unexpected))
  refine wpAny_execs_cons (wpAny_Return_some (wpAny_Compare1 (ld F₁₉ p5 (Tuple_ (spliced_more (callName F₁₉ G3 fn3 (spliced_more (ld F₁₉ p3 (spliced_none ⟨F₁₉.keep, sets_call (fn3.keep F₁₉.keep) (lim.keeps F₁₉.keep) hr hh (g17.keep _ _ hD3h) A3 (by omega) fun s₂₀ D7 us7 i9 g₂₀ nD7 hD7 S7 => ?_⟩)))))))))
  have F₂₀ := frGrow F₁₉ g₂₀
  refine spliced_more (callName F₂₀ G3 fn3 (spliced_more (ld F₂₀ p4 (spliced_none ⟨F₂₀.keep, sets_call (fn3.keep F₂₀.keep) (lim.keeps F₂₀.keep) hr hh ((g17.trans g₂₀).keep _ _ hD4) A4 (by omega) fun s₂₁ D8 us8 i10 g₂₁ nD8 hD8 S8 => ?_⟩))))
  refine spliced_none (newTuple_ fun s₂₂ T g₂₂ hT nT => ?_)
  have ge := g17.trans (g₂₀.trans (g₂₁.trans g₂₂))
  have gl := g₂₁.trans g₂₂
  have it1 : s₂₂.heap.IsTuple t [Value.ref aM, .ref aU].toArray := ⟨_, ge.keep _ _ hth, rfl, _, rfl⟩
  have it2 : s₂₂.heap.IsTuple T [Value.ref D7, .ref D8].toArray := ⟨_, hT, rfl, _, rfl⟩
  have ne1 : aM ≠ D7 := fun q => by rw [← q, g17.keep _ _ hMh] at nD7; cases nD7
  have ne2 : aU ≠ D8 := fun q => by rw [← q, (g17.trans g₂₀).keep _ _ hUh] at nD8; cases nD8
  refine eq_tupleAt (e := fun _ => true) it1 it2 ul (fun j h1 h2 => ?_) ?_
  · match j, h1 with
    | 0, _ => exact eqK_refl _ ▸ eqAtList (eq := eqK) (ge.keep _ _ hMh) (gl.keep _ _ hD7) ne1 ul1 (RSs.grow amh ge) (RSs.grow S7 gl) (eqRS ul2)
    | 1, _ => exact eqK_refl _ ▸ eqAtList (eq := eqK) (ge.keep _ _ hUh) (g₂₂.keep _ _ hD8) ne2 ul1 (RSs.grow auh ge) (RSs.grow S8 g₂₂) (eqRS ul2)
  · refine hQ s₂₂ mh (frGrow F₁₇ ge) ?_ ?_
    · exact ge.os.trans (x5h.os.trans (os₅.trans (g₄.os.trans (g₃.os.trans (g₂.os.trans g₁.os)))))
    · exact ge.gens.trans (x5h.gens.trans (gens₅.trans (g₄.gens.trans (g₃.gens.trans (g₂.gens.trans g₁.gens)))))
end
open PySem PySem.W PyProof.Rows PySem.Calls
open_top hd for PySem.Challenge.rw_dn0234_05

theorem gn_of {K : Frag} {h : Heap} {mg : Str → Option Value} {n : Str} {v : Value} (X : K.In h) (G : h.Ns mainGlobals mg) (e : nsIn K mainGlobals n = some (some v)) : Gn h n v := ⟨mg, G, mg_of X G e⟩
theorem bn_of {K : Frag} {h : Heap} {mg mb : Str → Option Value} {p : Program} {loose : List Str} {n : Str} {v : Value} (X : K.In h) (T : TopRead p loose mg mb h) (e : nsIn K mainGlobals n = some none) (hv : bootBuiltins n = some v) (hn : n ≠ "__name__" := by decide) : Bn h n v :=
  ⟨mg, mb, T.g, mg_none_of X T.g e, T.b, by rw [T.builtins n hn]; exact hv⟩

theorem top05 : PySem.Challenge.rw_dn0234_05.Holds := hd (by
  k_go0
  rename_i hg KX X V GL T B TE TW w9 w8 M w7 w6 hcd w5 hs hlay0 hLa hr1 hl2 w4 w3 w2 w1 w0 hL ra ww r0 hI hr hc hct K0 hD h₁ F N0
  have TR := topRead_of T
  refine wpAny_mono (law05 (fa := _) (Q := fun f s' => f = .ret (.bool true) ∧ ∃ m', Fr _ _ s'.heap m' ∧ s'.os = _ ∧ s'.gens = _) F rfl (show callerA.depth + 1 < recursionLimit by decide) (show callerA.units + 3 < 6000 by decide) rfl TR.nolimit rfl hL (intsAll hI) (by omega)
    (gn_of KX TR.g (by with_unfolding_all rfl)) (fn_of_K KX (by with_unfolding_all rfl) (by with_unfolding_all rfl))
    (gn_of KX TR.g (by with_unfolding_all rfl)) (fn_of_K KX (by with_unfolding_all rfl) (by with_unfolding_all rfl))
    (gn_of KX TR.g (by with_unfolding_all rfl)) (fn_of_K KX (by with_unfolding_all rfl) (by with_unfolding_all rfl))
    (bn_of KX TR (by with_unfolding_all rfl) (by with_unfolding_all rfl)) (bn_of KX TR (by with_unfolding_all rfl) (by with_unfolding_all rfl)) (bn_of KX TR (by with_unfolding_all rfl) (by with_unfolding_all rfl))
    fun s' m' F' os gens => ⟨rfl, m', F', os, gens⟩) (fun f s' q => ?_) fun _ _ q => q.elim
  obtain ⟨rfl, m', F', os, gens⟩ := q
  exact goodW_bool F' (gens.trans hg) (fun _ => rfl) (by with_unfolding_all rfl) os)
end Mine

theorem PySem.Challenge.cw_dn0234_05_holds : PySem.Challenge.rw_dn0234_05.Holds :=
  Mine.top05
