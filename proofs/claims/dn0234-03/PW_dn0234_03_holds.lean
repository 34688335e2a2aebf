import PyProof.Rows.All
import Wide.All
import OpenK.AllK
import Wide.FinOn
import PySem.Challenge.RW_dn0234_03
set_option Elab.async false
set_option maxRecDepth 100000
set_option maxHeartbeats 8000000
open PySem PySem.W PyProof.Rows PySem.Calls
namespace Mine

/-! heaps: everything is kept, but the slots of the frames S may turn -/
structure Kp (S : List Addr) (h h' : Heap) : Prop where
  keep : ∀ b o, h.get? b = some o → b ∉ S → h'.get? b = some o
  slot : ∀ b o, h.get? b = some o → ∃ sl, h'.get? b = some { o with slots := sl }

theorem Kp.refl (S : List Addr) (h : Heap) : Kp S h h := ⟨fun _ _ e _ => e, fun _ o e => ⟨o.slots, e⟩⟩
theorem Kp.trans {S : List Addr} {a b c : Heap} (x : Kp S a b) (y : Kp S b c) : Kp S a c :=
  ⟨fun d o e n => y.keep d o (x.keep d o e n) n, fun d o e => let ⟨_, e₁⟩ := x.slot d o e; let ⟨sl, e₂⟩ := y.slot d _ e₁; ⟨sl, e₂⟩⟩
theorem Kp.of_keep {S : List Addr} {h h' : Heap} (k : ∀ b o, h.get? b = some o → h'.get? b = some o) : Kp S h h' :=
  ⟨fun b o e _ => k b o e, fun b o e => ⟨o.slots, k b o e⟩⟩
theorem Kp.mono {S S' : List Addr} {h h' : Heap} (x : Kp S h h') (hs : ∀ b, b ∈ S → b ∈ S') : Kp S' h h' :=
  ⟨fun b o e n => x.keep b o e fun q => n (hs b q), x.slot⟩
theorem Kp.of_slotsOnly {S : List Addr} {h h' : Heap} (x : Heap.SlotsOnly S h h') : Kp S h h' :=
  ⟨fun b _ e n => (x.2.1 b n).trans e, x.2.2⟩
theorem Kp.ns {S : List Addr} {h h' : Heap} {a : Addr} {m : Str → Option Value} (x : Kp S h h') (hn : h.Ns a m) : h'.Ns a m := by
  obtain ⟨o, es, ep, ho, hd, r⟩ := hn
  obtain ⟨sl, hs⟩ := x.slot a o ho
  exact ⟨_, es, ep, hs, hd, r⟩
theorem Kp.frames {S : List Addr} {h h' base : Heap} {l : List Env} (x : Kp S h h') (hl : h.FunFrames base l) : h'.FunFrames base l :=
  hl.of_keeps fun b o e _ => let ⟨_, e'⟩ := x.slot b o e; ⟨_, e', rfl⟩
theorem Kp.fresh {S : List Addr} {h h' : Heap} (x : Kp S h h') : h.get? h'.objs.size = none := by
  cases hq : h.get? h'.objs.size with
  | none => rfl
  | some o => obtain ⟨sl, e⟩ := x.slot _ _ hq; exact absurd (Heap.lt_size e) (Nat.lt_irrefl _)

/-- an exception on its way: everything of hm stands, e is new -/
structure Fly (hm : Addr → Option Obj) (S : List Addr) (e : Addr) (cls : String) (tr : Bool) (c : Value) (h : Heap) : Prop where
  keep : ∀ b o, hm b = some o → b ∉ S → h.get? b = some o
  slot : ∀ b o, hm b = some o → ∃ sl, h.get? b = some { o with slots := sl }
  new : hm e = none
  there : ∃ oe vs, h.get? e = some oe ∧ oe.cls = .type cls ∧ oe.data = .fields vs ∧ vs.size = 6 ∧ vs[2]? = some c ∧
    (match tr with
     | false => vs[1]? = some .none
     | true => ∃ T oT ts, vs[1]? = some (.ref T) ∧ hm T = none ∧ T ≠ e ∧ h.get? T = some oT ∧ oT.data = .fields ts ∧ 3 < ts.size)

theorem Fly.of_new {hm h : Heap} {S : List Addr} {e : Addr} {cls : String} (x : Heap.NewExc hm h e cls) : Fly hm.get? S e cls false .none h := by
  obtain ⟨ob, t, he, hc, hd⟩ := x.there
  exact ⟨fun b o q _ => x.keeps b o q, fun b o q => ⟨o.slots, x.keeps b o q⟩, x.new, ob, _, he, hc, hd, rfl, rfl, rfl⟩
theorem Fly.kp {hm h : Heap} {S : List Addr} {e : Addr} {cls : String} {tr : Bool} {c : Value} (x : Fly hm.get? S e cls tr c h) : Kp S hm h := ⟨x.keep, x.slot⟩
/-- another thing to keep in view while e is on its way -/
theorem Fly.anew {hm : Addr → Option Obj} {h h' : Heap} {S : List Addr} {e L : Addr} {cls : String} {c : Value} (x : Fly hm S e cls true c h) (hL : ∃ es n o, h.get? L = some o ∧ o.data = .dict es n)
    (k : ∀ b o, b ≠ L → h.get? b = some o → h'.get? b = some o) : ∃ hm' : Addr → Option Obj, Fly hm' S e cls true c h' ∧ ∀ b o, hm b ≠ none → h'.get? b = some o → hm' b = some o := by
  obtain ⟨_, _, ne, oe, vs, he, hc, hd, hsz, h2, T, oT, ts, h1, nT, hTe, gT, dT, sT⟩ := x
  obtain ⟨es, n, oL, q1, q2⟩ := hL
  have heL : e ≠ L := fun q => by rw [q, q1] at he; cases he; rw [q2] at hd; cases hd
  have hTL : T ≠ L := fun q => by rw [q, q1] at gT; cases gT; rw [q2] at dT; cases dT
  refine ⟨fun b => if b = e ∨ b = T then none else h'.get? b, ⟨fun b o q _ => ?_, fun b o q => ⟨o.slots, ?_⟩, by simp, oe, vs, k _ _ heL he, hc, hd, hsz, h2, T, oT, ts, h1, by simp, hTe, k _ _ hTL gT, dT, sT⟩, fun b o nb q => ?_⟩
  · split at q
    · cases q
    · exact q
  · split at q
    · cases q
    · exact q
  · show (if _ then _ else _) = _
    rw [if_neg]
    · exact q
    · rintro (r | r)
      · exact nb (by rw [r, ne])
      · exact nb (by rw [r, nT])

section
variable {M : Model} {A : Around} {E : Value → Shared → Prop} {s : Shared} {base : Heap} {hm : Addr → Option Obj} {env : Env} {outer : List Env} {L e : Addr} {cls : String} {tr : Bool} {c : Value} {S : List Addr}

theorem not_frame {l : List Env} {h : Heap} (hl : h.FunFrames base l) {b : Addr} {o : Obj} {vs : Array Value} (ho : h.get? b = some o) (hd : o.data = .fields vs) : b ∉ l.filterMap (·.frame) := fun hb => by
  obtain ⟨_, o', ho', nf⟩ := hl.mem hb
  rw [ho] at ho'; cases ho'; exact nf vs hd

theorem entry_ {head : Value} {hadNext : Bool} {oe : Obj} {vs : Array Value} {Q : Unit → Shared → Prop}
    (hfr : A.frames = some (env :: outer)) (hl : s.heap.FunFrames base (env :: outer)) (hf : env.frame = some L)
    (keep : ∀ b o, hm b = some o → b ∉ (env :: outer).filterMap (·.frame) → s.heap.get? b = some o) (slot : ∀ b o, hm b = some o → ∃ sl, s.heap.get? b = some { o with slots := sl }) (new : hm e = none)
    (he : s.heap.get? e = some oe) (hc : oe.cls = .type cls) (hd : oe.data = .fields vs) (hsz : vs.size = 6) (h2 : vs[2]? = some c)
    (h : ∀ h', Fly hm ((env :: outer).filterMap (·.frame)) e cls true c h' → h'.FunFrames base (env :: outer) → Q () { s with heap := h' }) :
    wpAny M A (do let a ← frameOf env; let pl ← entryPlaceOf L hadNext; let b ← EntryCells.newEntry head a .none (rawInt L) .none pl; setField (.ref e) 1 b) Q E s := by
  have hene := not_frame hl he hd
  refine wpAny_bind (wpAny_frameOf_fun hfr hl hf fun h₁ hs₁ => ?_)
  refine wpAny_bind (wpAny_entryPlaceOf fun pl hpl => ?_)
  unfold EntryCells.newEntry newFields
  refine wpAny_bind (wpAny_newObj_type ?_ (hpl.sizeOk5 _ _ _ _ _))
  have he₁ : h₁.get? e = some oe := (hs₁.2.1 e hene).trans he
  have he₂ := Heap.get?_push_of_some (h := h₁) { cls := .type "traceback", dict := none, data := .fields ([head, .ref L, .none, rawInt L, .none] ++ (if pl.isEmpty then List.replicate 6 Value.none else pl)).toArray } he₁
  have hTe : h₁.objs.size ≠ e := Nat.ne_of_gt (Heap.lt_size he₁)
  have hd₃ := Obj.data_mapFields hd (·.setIfInBounds 1 (Value.ref h₁.objs.size))
  have he₃ := Heap.get?_update_self (Obj.mapFields (·.setIfInBounds 1 (Value.ref h₁.objs.size))) he₂ (Obj.isFreed_of_fields hd₃)
  have hT₃ := (Heap.get?_update_other (h₁.push { cls := .type "traceback", dict := none, data := .fields ([head, .ref L, .none, rawInt L, .none] ++ (if pl.isEmpty then List.replicate 6 Value.none else pl)).toArray })
    (Obj.mapFields (·.setIfInBounds 1 (Value.ref h₁.objs.size))) (Ne.symm hTe)).trans (Heap.get?_push_size h₁ rfl)
  have keep1 : ∀ b o, hm b = some o → b ∉ (env :: outer).filterMap (·.frame) → h₁.get? b = some o := fun b o q n => (hs₁.2.1 b n).trans (keep b o q n)
  have slot1 : ∀ b o, hm b = some o → ∃ sl, h₁.get? b = some { o with slots := sl } := fun b o q => by
    obtain ⟨sl, q'⟩ := slot b o q
    obtain ⟨sl', q''⟩ := hs₁.2.2 b _ q'
    exact ⟨sl', q''⟩
  have nn : hm h₁.objs.size = none := by
    cases q : hm h₁.objs.size with
    | none => rfl
    | some o => obtain ⟨sl, q'⟩ := slot1 _ _ q; exact absurd (Heap.lt_size q') (Nat.lt_irrefl _)
  have up : ∀ b o, b ≠ e → h₁.get? b = some o → ((h₁.push { cls := .type "traceback", dict := none, data := .fields ([head, .ref L, .none, rawInt L, .none] ++ (if pl.isEmpty then List.replicate 6 Value.none else pl)).toArray }).update e (Obj.mapFields (·.setIfInBounds 1 (Value.ref h₁.objs.size)))).get? b = some o := fun b o n q => by
    rw [Heap.get?_update_other _ _ (Ne.symm n)]; exact Heap.get?_push_of_some _ q
  refine wpAny_setField he₂ hd (by omega) (h _ ⟨fun b o hb n => ?_, fun b o hb => ?_, new, _, _, he₃, ?_, hd₃, ?_, ?_, h₁.objs.size, _, _, ?_, nn, hTe, hT₃, rfl, ?_⟩ ?_)
  · exact up b o (fun q => by rw [q, new] at hb; cases hb) (keep1 b o hb n)
  · obtain ⟨sl, q⟩ := slot1 b o hb
    exact ⟨sl, up b _ (fun q => by rw [q, new] at hb; cases hb) q⟩
  · rw [Obj.cls_mapFields]; exact hc
  · rw [Array.size_setIfInBounds]; exact hsz
  · rw [Array.getElem?_setIfInBounds_ne (by decide)]; exact h2
  · simp [hsz]
  · simp only [List.size_toArray, List.length_append, List.length_cons, List.length_nil] <;> omega
  · refine hl.of_keeps fun b o hb nf => ?_
    obtain ⟨sl, q⟩ := hs₁.2.2 b o hb
    exact ⟨_, up b _ (fun q' => by rw [q', he] at hb; cases hb; exact nf _ hd) q, rfl⟩

theorem note_ {Q : Unit → Shared → Prop} (hfr : A.frames = some (env :: outer)) (hl : s.heap.FunFrames base (env :: outer)) (hf : env.frame = some L)
    (X : Fly hm ((env :: outer).filterMap (·.frame)) e cls tr c s.heap)
    (h : ∀ h', Fly hm ((env :: outer).filterMap (·.frame)) e cls true c h' → h'.FunFrames base (env :: outer) → Q () { s with heap := h' }) : wpAny M A (noteFrame (.ref e) env) Q E s := by
  obtain ⟨keep, slot, new, oe, vs, he, hc, hd, hsz, h2, hT⟩ := id X
  unfold noteFrame
  simp only [hf]
  cases tr with
  | false =>
    refine wpAny_bind (wpAny_field he hd hT ?_)
    rw [if_neg (by decide)]
    exact entry_ hfr hl hf keep slot new he hc hd hsz h2 h
  | true =>
    obtain ⟨T, oT, ts, h1, nT, hTe, gT, dT, sT⟩ := hT
    refine wpAny_bind (wpAny_field he hd h1 ?_)
    rw [if_pos (show (Value.ref T != Value.none) = true from by simp)]
    refine wpAny_bind (wpAny_field gT dT (Array.getElem?_eq_getElem sT) ?_)
    by_cases hq : (ts[3] == rawInt L) = true
    · rw [if_pos hq]
      exact wpAny_pure (h _ X hl)
    · rw [if_neg hq]
      refine wpAny_bind (wpAny_setField gT dT sT ?_)
      have other : ∀ b, b ≠ T → (s.heap.update T (Obj.mapFields (·.setIfInBounds 3 Value.none))).get? b = s.heap.get? b := fun b hb => Heap.get?_update_other _ _ (Ne.symm hb)
      have nb : ∀ b o, hm b = some o → b ≠ T := fun b o hb q => by rw [q, nT] at hb; cases hb
      refine entry_ (s := { s with heap := s.heap.update T (Obj.mapFields (·.setIfInBounds 3 Value.none)) }) hfr (hl.of_keeps fun b o hb nf => ⟨o, (other b fun q => ?_).trans hb, rfl⟩) hf (fun b o hb n => ?_) (fun b o hb => ?_) new ((other e (Ne.symm hTe)).trans he) hc hd hsz h2 h
      · rw [q, gT] at hb; cases hb; exact nf _ dT
      · exact (other b (nb b o hb)).trans (keep b o hb n)
      · obtain ⟨sl, q⟩ := slot b o hb
        exact ⟨sl, (other b (nb b o hb)).trans q⟩

theorem flight_ {fr : Option Addr} {Q : Unit → Shared → Prop} {l : List Env} (X : Fly hm S e cls tr c s.heap) (hl : s.heap.FunFrames base l)
    (h : ∀ h', Fly hm S e cls tr c h' → h'.FunFrames base l → Q () { s with heap := h' }) : wpAny M A (setFlight (.ref e) fr) Q E s := by
  obtain ⟨keep, slot, new, oe, vs, he, hc, hd, hsz, h2, hT⟩ := id X
  unfold setFlight
  cases tr with
  | false =>
    refine wpAny_bind (wpAny_field he hd hT ?_)
    rw [if_neg (by decide)]
    exact wpAny_pure (h _ X hl)
  | true =>
    obtain ⟨T, oT, ts, h1, nT, hTe, gT, dT, sT⟩ := hT
    refine wpAny_bind (wpAny_field he hd h1 ?_)
    rw [if_pos (show (Value.ref T != Value.none) = true from by simp)]
    have other : ∀ v b, b ≠ T → (s.heap.update T (Obj.mapFields (·.setIfInBounds 3 v))).get? b = s.heap.get? b := fun v b hb => Heap.get?_update_other _ _ (Ne.symm hb)
    have nb : ∀ b o, hm b = some o → b ≠ T := fun b o hb q => by rw [q, nT] at hb; cases hb
    refine wpAny_setField gT dT sT (h _ ⟨fun b o hb n => (other _ b (nb b o hb)).trans (keep b o hb n), fun b o hb => ?_, new, oe, vs, (other _ e (Ne.symm hTe)).trans he, hc, hd, hsz, h2, T, _, _, h1, nT, hTe,
      Heap.get?_update_self _ gT (Obj.isFreed_of_fields (Obj.data_mapFields dT _)), Obj.data_mapFields dT _, by rw [Array.size_setIfInBounds]; exact sT⟩ (hl.of_keeps fun b o hb nf => ⟨o, (other _ b fun q => ?_).trans hb, rfl⟩))
    · obtain ⟨sl, q⟩ := slot b o hb
      exact ⟨sl, (other _ b (nb b o hb)).trans q⟩
    · rw [q, gT] at hb; cases hb; exact nf _ dT

theorem field1_ {Q : Value → Shared → Prop} (X : Fly hm S e cls true c s.heap) (h : ∀ T, Q (.ref T) s) : wpAny M A (field (.ref e) 1) Q E s := by
  obtain ⟨_, _, new, oe, vs, he, hc, hd, hsz, h2, T, oT, ts, h1, _⟩ := id X
  exact wpAny_field he hd h1 (h T)

theorem came_ {l : List Env} (X : Fly hm S e cls true c s.heap) (hl : s.heap.FunFrames base l) (h : ∀ h', Fly hm S e cls true c h' → h'.FunFrames base l → E (.ref e) { s with heap := h' }) : cameBackBy M A env E (.ref e) s := by
  unfold cameBackBy
  refine wpAny_bind (field1_ X fun T => ?_)
  rw [if_neg (show ¬ ((Value.ref T == Value.none) = true) from by simp)]
  first | exact flight_ X hl h | exact wpAny_bind (wpAny_pure (flight_ X hl h))

theorem passOn_ {α : Type} {what : String} {Q : α → Shared → Prop} {l : List Env} (X : Fly hm S e cls true c s.heap) (hl : s.heap.FunFrames base l) (h : ∀ h', Fly hm S e cls true c h' → h'.FunFrames base l → E (.ref e) { s with heap := h' }) :
    wpAny M A (PySem.passOn what (.ref e) env : Sem α) Q E s := by
  unfold PySem.passOn
  refine wpAny_bind (field1_ X fun T => ?_)
  rw [if_neg (show ¬ ((Value.ref T == Value.none) = true) from by simp)]
  first | exact wpAny_bind (flight_ X hl fun h' X' hl' => wpAny_throw (h h' X' hl')) | exact wpAny_bind (wpAny_pure (wpAny_bind (flight_ X hl fun h' X' hl' => wpAny_throw (h h' X' hl'))))

theorem noted_ (hfr : A.frames = some (env :: outer)) (hl : s.heap.FunFrames base (env :: outer)) (hf : env.frame = some L)
    (X : Fly hm ((env :: outer).filterMap (·.frame)) e cls tr c s.heap)
    (h : ∀ h', Fly hm ((env :: outer).filterMap (·.frame)) e cls true c h' → h'.FunFrames base (env :: outer) → E (.ref e) { s with heap := h' }) : notedBy M A env E (.ref e) s :=
  note_ hfr hl hf X h

theorem leaving_ {Q : Unit → Shared → Prop} (hfr : A.frames = some (env :: outer)) (hl : s.heap.FunFrames base (env :: outer)) (hf : env.frame = some L)
    (X : Fly hm ((env :: outer).filterMap (·.frame)) e cls tr c s.heap)
    (h : ∀ h', Fly hm ((env :: outer).filterMap (·.frame)) e cls true c h' → h'.FunFrames base (env :: outer) → Q () { s with heap := h' }) : wpAny M A (leaving env (.ref e)) Q E s := by
  unfold leaving
  exact wpAny_bind (note_ hfr hl hf X fun h' X' hl' => flight_ (s := { s with heap := h' }) X' hl' fun h'' X'' hl'' => h h'' X'' hl'')
end

/-- what is handled at hand: nothing, or an exception without a context -/
def Hd (A : Around) (h : Heap) : Prop :=
  A.handled = none ∨ ∃ e o vs, A.handled = some (.ref e) ∧ h.get? e = some o ∧ o.data = .fields vs ∧ vs[2]? = some .none

theorem Hd.keep {A : Around} {h h' : Heap} (x : Hd A h) (k : ∀ b o, h.get? b = some o → h'.get? b = some o) : Hd A h' :=
  x.imp id fun ⟨e, o, vs, a, b, c⟩ => ⟨e, o, vs, a, k _ _ b, c⟩

theorem entry_unchain : entryFor table "proto.unchain" = some Builtin.«proto.unchain» := entryFor_of_tree (by kernel_rfl)

section
variable {prog : Program} {w : World} {α : Type} {A : Around} {E : Value → Shared → Prop} {s : Shared} {S : List Addr}

theorem raiseNew_any {e : Addr} {oe : Obj} {t : Value} {hm : Heap} {cls : String} {Q : α → Shared → Prop} (hd : Hd A hm) (kp : ∀ b o, hm.get? b = some o → s.heap.get? b = some o) (new : hm.get? e = none)
    (he : s.heap.get? e = some oe) (hc : oe.cls = .type cls) (hD : oe.data = .fields #[t, .none, .none, .none, .bool false, .none])
    (h : ∀ h' c, Fly hm.get? S e cls false c h' → (A.handled = none → c = .none) → E (.ref e) { s with heap := h' }) : wpAny (model prog w) A (raiseNew (.ref e) : Sem α) Q E s := by
  unfold raiseNew
  refine wpAny_bind (wpAny_handled ?_)
  rcases hd with hd | ⟨e1, o1, vs1, hd, g1, d1, c1⟩
  · rw [hd]
    have q : Fly hm.get? S e cls false .none s.heap := ⟨fun b o q _ => kp b o q, fun b o q => ⟨o.slots, kp b o q⟩, new, oe, _, he, hc, hD, rfl, rfl, rfl⟩
    first
      | exact wpAny_throw (h _ _ q fun _ => rfl)
      | exact wpAny_bind (wpAny_pure (wpAny_throw (h _ _ q fun _ => rfl)))
  · rw [hd]
    have ne : e1 ≠ e := fun q => by rw [q, new] at g1; cases g1
    have hne : (Value.ref e1 != Value.ref e) = true := by simp [ne]
    simp only [hne, if_true]
    refine wpAny_bind (wpAny_holding (wpAny_runValue (codeAny_builtin entry_unchain ?_)))
    unfold Builtin.«proto.unchain»
    dsimp only
    refine wpAny_bind (wpAny_field (kp _ _ g1) d1 c1 ?_)
    simp only [beq_self_eq_true, if_true]
    refine wpAny_pure ?_
    dsimp only
    refine wpAny_bind ?_
    unfold updateField
    refine wpAny_bind (wpAny_load he ?_)
    rw [hD]
    simp only [show (2 : Nat) < (#[t, Value.none, .none, .none, .bool false, .none] : Array Value).size from by simp, if_true]
    refine wpAny_update he (wpAny_throw (h _ (.ref e1) ⟨fun b o hb _ => ?_, fun b o hb => ⟨o.slots, ?_⟩, new, _, _, Heap.get?_update_self _ he (Obj.isFreed_of_fields (Obj.data_mapFields hD _)), ?_, Obj.data_mapFields hD _, ?_, ?_, ?_⟩ fun q => by rw [hd] at q; cases q))
    · rw [Heap.get?_update_other _ _ (fun q => by rw [← q, new] at hb; cases hb)]; exact kp b o hb
    · rw [Heap.get?_update_other _ _ (fun q => by rw [← q, new] at hb; cases hb)]; exact kp b o hb
    · rw [Obj.cls_mapFields]; exact hc
    · simp
    · simp
    · simp

theorem raiseWords_any {cls msg : String} {Q : α → Shared → Prop} (hp : PlainExc cls) (hd : Hd A s.heap)
    (h : ∀ h' tk e c, Fly s.heap.get? S e cls false c h' → (A.handled = none → c = .none) → E (.ref e) { s with heap := h', toks := tk }) :
    wpAny (model prog w) A (raiseErrorWords cls msg : Sem α) Q E s := by
  unfold raiseErrorWords
  refine wpAny_bind (wpAny_mkText (wpAny_bind ?_))
  unfold newExc newTuple
  refine wpAny_bind (wpAny_newObj_type ?_)
  refine wpAny_bind (m := firstArgMember _ _) (wpAny_of_eq (a := Value.none) (by simp only [firstArgMember, hp.first]; rfl) ?_)
  rw [hp.own]
  refine wpAny_newObj_type ?_
  refine raiseNew_any (hm := s.heap) (t := .ref s.heap.objs.size) hd (fun b o hb => Heap.get?_push_of_some _ (Heap.get?_push_of_some _ hb)) ?_ (Heap.get?_push_size _ rfl) rfl ?_ fun h' c X hc => h h' _ _ c X hc
  · exact Heap.get?_none_of_le (by simp)
  · simp

theorem raiseMade_any {cls msg : String} {Q : α → Shared → Prop} (hp : PlainExc cls) (hd : Hd A s.heap)
    (h : ∀ h' tk e c, Fly s.heap.get? S e cls false c h' → (A.handled = none → c = .none) → E (.ref e) { s with heap := h', toks := tk }) (hm : (msg : Str).length ≤ sizeLine := by size_fits) :
    wpAny (model prog w) A (raiseErrorMade cls msg : Sem α) Q E s := by
  unfold raiseErrorMade
  refine wpAny_bind (wpAny_mkStr (wpAny_bind ?_) hm)
  unfold newExc newTuple
  refine wpAny_bind (wpAny_newObj_type ?_)
  refine wpAny_bind (m := firstArgMember _ _) (wpAny_of_eq (a := Value.none) (by simp only [firstArgMember, hp.first]; rfl) ?_)
  rw [hp.own]
  refine wpAny_newObj_type ?_
  refine raiseNew_any (hm := s.heap) (t := .ref s.heap.objs.size) hd (fun b o hb => Heap.get?_push_of_some _ (Heap.get?_push_of_some _ hb)) ?_ (Heap.get?_push_size _ rfl) rfl ?_ fun h' c X hc => h h' _ _ c X hc
  · exact Heap.get?_none_of_le (by simp)
  · simp
end

section
variable {prog : Program} {w : World} {A : Around} {E : Value → Shared → Prop} {s : Shared} {S : List Addr}

theorem Hd.in1 {h : Heap} (x : Hd A h) : Hd A.in1 h := x

/-- xs[k] beyond a list's end -/
theorem getItem_list_out {l : Addr} {items : Array Value} {k : Int} {t : Tok} {Q : Value → Shared → Prop} (hd : Hd A s.heap) (hl : s.heap.IsList l items)
    (hout : (items.size : Int) ≤ k) (hhi : k < 2 ^ 63)
    (hE : ∀ h' tk e c, Fly s.heap.get? S e "IndexError" false c h' → (A.handled = none → c = .none) → E (.ref e) { s with heap := h', toks := tk }) :
    wpAny (model prog w) A (getItem (.ref l) (.int k t)) Q E s := by
  obtain ⟨o, ho, hc, ne, hD⟩ := id hl
  unfold getItem
  try with_reducible refine wpAny_holding ?_
  first | refine wpAny_bind (wpAny_pure ?_) | skip
  refine wpAny_bind (wpAny_sequenceKey hl.typeIs (by decide) ?_)
  refine wpAny_bind (wpAny_callSpecial?_slot (name := Str.ofString "__getitem__") hl.typeIs slot_list_getitem
    (wpAny_call_entry slot_list_getitem hl.typeIs entry_list_getitem ?_ (args_list_getitem _ _)))
  show wpAny _ _ (Builtin.List.listSubscript? (.int k t) >>= _) _ _ s
  refine wpAny_bind (wpAny_listSubscript_int (fitsIndex_both (by omega) hhi) ?_)
  clear hhi
  obtain ⟨j, rfl⟩ := Int.eq_ofNat_of_zero_le (show 0 ≤ k by omega)
  have hx : items[j]? = none := Array.getElem?_eq_none (by omega)
  show wpAny _ _ ((seqItemAt l j >>= fun r => pure (r.map (j, ·))) >>= _) _ _ s
  refine wpAny_bind (wpAny_bind (wpAny_seqItemAt ho hD (wpAny_pure ?_)))
  rw [hx]
  first
    | exact wpAny_bind (wpAny_rule (raiseWords_any plainExc_IndexError hd hE))
    | exact wpAny_bind (wpAny_rule (wpAny_bind (raiseWords_any plainExc_IndexError hd hE)))
    | exact wpAny_bind (wpAny_bind (wpAny_rule (raiseWords_any plainExc_IndexError hd hE)))
    | exact wpAny_rule (raiseWords_any plainExc_IndexError hd hE)
end

abbrev upd (m : Str → Option Value) (x : Str) (v : Value) : Str → Option Value := fun y => if y = x then some v else m y
theorem upd_same {m : Str → Option Value} {x : Str} {v : Value} : upd m x v x = some v := if_pos rfl
theorem upd_ne {m : Str → Option Value} {x y : Str} {v : Value} {r : Option Value} (hn : y ≠ x) (h : m y = r) : upd m x v y = r := (if_neg hn).trans h

inductive All2 {α β : Type} (R : α → β → Prop) : List α → List β → Prop
  | nil : All2 R [] []
  | cons {a b as bs} : R a b → All2 R as bs → All2 R (a :: as) (b :: bs)
theorem All2.length {α β : Type} {R : α → β → Prop} {as : List α} {bs : List β} (h : All2 R as bs) : as.length = bs.length := by
  induction h with
  | nil => rfl
  | cons _ _ ih => simp [ih]
theorem All2.append {α β : Type} {R : α → β → Prop} {as cs : List α} {bs ds : List β} (h : All2 R as bs) (k : All2 R cs ds) : All2 R (as ++ cs) (bs ++ ds) := by
  induction h with
  | nil => exact k
  | cons r _ ih => exact .cons r ih
theorem All2.get {α β : Type} {R : α → β → Prop} {as : List α} {bs : List β} (h : All2 R as bs) : ∀ (i : Nat) (h1 : i < as.length) (h2 : i < bs.length), R as[i] bs[i] := by
  induction h with
  | nil => intro i h1; exact absurd h1 (Nat.not_lt_zero _)
  | cons r _ ih =>
    intro i h1 h2
    cases i with
    | zero => exact r
    | succ i => exact ih i (Nat.lt_of_succ_lt_succ h1) (Nat.lt_of_succ_lt_succ h2)
theorem All2.drop {α β : Type} {R : α → β → Prop} {as : List α} {bs : List β} (h : All2 R as bs) : ∀ i : Nat, All2 R (as.drop i) (bs.drop i) := by
  induction h with
  | nil => intro i; simp; exact .nil
  | cons r k ih =>
    intro i
    cases i with
    | zero => exact .cons r k
    | succ i => exact ih i

/-- the state grows: nothing that stood has changed -/
structure Grow (s s' : Shared) : Prop where
  keep : ∀ b o, s.heap.get? b = some o → s'.heap.get? b = some o
  os : s'.os = s.os
  gens : s'.gens = s.gens
theorem Grow.refl (s : Shared) : Grow s s := ⟨fun _ _ e => e, rfl, rfl⟩
theorem Grow.trans {a b c : Shared} (x : Grow a b) (y : Grow b c) : Grow a c := ⟨fun d o e => y.keep d o (x.keep d o e), y.os.trans x.os, y.gens.trans x.gens⟩
theorem Grow.toks (s : Shared) (t : Nat) : Grow s { s with toks := t } := ⟨fun _ _ e => e, rfl, rfl⟩
theorem Grow.push (s : Shared) (o : Obj) (t : Nat) : Grow s { s with heap := s.heap.push o, toks := t } := ⟨fun _ _ e => Heap.get?_push_of_some _ e, rfl, rfl⟩

/-- all but the object at L stands -/
structure ExL (L : Addr) (s s' : Shared) : Prop where
  keep : ∀ b o, b ≠ L → s.heap.get? b = some o → s'.heap.get? b = some o
  os : s'.os = s.os
  gens : s'.gens = s.gens
theorem ExL.refl (L : Addr) (s : Shared) : ExL L s s := ⟨fun _ _ _ e => e, rfl, rfl⟩
theorem ExL.trans {L : Addr} {a b c : Shared} (x : ExL L a b) (y : ExL L b c) : ExL L a c := ⟨fun d o n e => y.keep d o n (x.keep d o n e), y.os.trans x.os, y.gens.trans x.gens⟩
theorem Grow.exL {L : Addr} {a b : Shared} (x : Grow a b) : ExL L a b := ⟨fun d o _ e => x.keep d o e, x.os, x.gens⟩

theorem frGrow {h₀ : Heap} {L : Addr} {s s' : Shared} {m : Str → Option Value} (F : Fr h₀ L s.heap m) (g : Grow s s') : Fr h₀ L s'.heap m :=
  ⟨F.ns.keeps g.keep, fun b o e => g.keep b o (F.keep b o e), F.above⟩
theorem kpGrow {S : List Addr} {h₀ : Heap} {s s' : Shared} (k : Kp S h₀ s.heap) (g : Grow s s') : Kp S h₀ s'.heap := k.trans (.of_keep g.keep)
theorem kpExL {S : List Addr} {h₀ : Heap} {L : Addr} {s s' : Shared} (k : Kp S h₀ s.heap) (g : ExL L s s') (n : h₀.get? L = none) : Kp S h₀ s'.heap :=
  ⟨fun b o e nS => g.keep b o (fun q => by rw [q, n] at e; cases e) (k.keep b o e nS),
   fun b o e => let ⟨sl, q⟩ := k.slot b o e; ⟨sl, g.keep b _ (fun q => by rw [q, n] at e; cases e) q⟩⟩
theorem hdExL {A : Around} {L : Addr} {s s' : Shared} (x : Hd A s.heap) (g : ExL L s s') (hL : ∃ es n o, s.heap.get? L = some o ∧ o.data = .dict es n) : Hd A s'.heap := by
  refine x.imp id fun ⟨e, o, vs, a, b, c, d⟩ => ⟨e, o, vs, a, g.keep _ _ (fun q => ?_) b, c, d⟩
  obtain ⟨es, n, oL, q1, q2⟩ := hL
  rw [q, q1] at b; cases b; rw [q2] at c; cases c
theorem frDict {h₀ : Heap} {L : Addr} {h : Heap} {m : Str → Option Value} (F : Fr h₀ L h m) : ∃ es n o, h.get? L = some o ∧ o.data = .dict es n := by
  obtain ⟨o, es, ep, ho, hd, _⟩ := F.ns
  exact ⟨es, ep, o, ho, hd⟩

section
variable {M : Model} {A : Around} {E : Value → Shared → Prop} {s : Shared} {name : Str} {scope : Scope} {L a : Addr} {cd : Value} {h₀ : Heap} {m : Str → Option Value}

theorem st_ {x : Str} {v : Value} {Q : Unit → Shared → Prop} (F : Fr h₀ L s.heap m)
    (h : ∀ s', Fr h₀ L s'.heap (upd m x v) → ExL L s s' → Q () s')
    (hk : scope.kind = .function := by rfl) (hl : (envOf name scope L a cd).kindOf x = some .local := by rfl) :
    wpAny M A (storeName (envOf name scope L a cd) x v) Q E s :=
  wpAny_storeName_local hl F.ns (fun _ hn hs => h _ (F.set hn hs) ⟨fun b _ n e => (hs.2 b n).trans e, rfl, rfl⟩)
    (by show (scope.kind == .class || (scope.kind == .module && L != mainGlobals)) = false; rw [hk]; rfl)
end

/-- a sequence value (a list, a text) that a function reads: its items, its end, its rest from i on -/
structure Sq (prog : Program) (w : World) {α : Type} (S : List Addr) (h₀ : Heap) (Rep : Value → α → Prop) (V : Value) (X : List α) : Prop where
  len : X.length < 100000
  get : ∀ {A : Around} {E : Value → Shared → Prop} {s : Shared} {Q : Value → Shared → Prop} {value : Expr} {x : Str} {p : Pos} {i : Nat} {t : Tok} (_ : Kp S h₀ s.heap) (hi : i < X.length)
    (_ : ∀ v s', Grow s s' → Rep v X[i] → Q v s'), wpAny (model prog w) A (subscriptTail value (.Name x p) V (.int i t)) Q E s
  out : ∀ {A : Around} {E : Value → Shared → Prop} {s : Shared} {S' : List Addr} {Q : Value → Shared → Prop} {value : Expr} {x : Str} {p : Pos} {i : Nat} {t : Tok} (_ : Kp S h₀ s.heap) (_ : Hd A s.heap) (_ : X.length ≤ i) (_ : i < 200000)
    (_ : ∀ h' tk e c, Fly s.heap.get? S' e "IndexError" false c h' → (A.handled = none → c = .none) → E (.ref e) { s with heap := h', toks := tk }),
    wpAny (model prog w) A (subscriptTail value (.Name x p) V (.int i t)) Q E s
  cut : ∀ {A : Around} {E : Value → Shared → Prop} {s : Shared} {Q : Value → Shared → Prop} {value : Expr} {lo : Option Expr} {p : Pos} {i : Nat} {t : Tok} {sl aM : Addr} {ms : List Value} {n : Nat} (_ : Kp S h₀ s.heap) (_ : A.units < 9000)
    (_ : s.heap.IsSliceOf sl (.int i t) .none .none) (_ : i ≤ X.length) (_ : s.heap.get? aM = some (listOf ms.toArray n)) (_ : ms.length < 100000) (_ : h₀.get? aM = none)
    (_ : ∀ s' vs n', ExL aM s s' → s'.heap.get? aM = some (listOf (ms ++ vs).toArray n') → All2 Rep vs (X.drop i) → Q .none s'),
    wpAny (model prog w) A (subscriptTail value (.Slice lo none none p) V (.ref sl)) (fun W s₁ => wpAny (model prog w) A (call (.builtin "list.extend") [.ref aM, W]) Q E s₁) E s

/-- equality of two items -/
def EqOk (prog : Program) (w : World) {α : Type} (S : List Addr) (h₀ : Heap) (Rep : Value → α → Prop) (eq : α → α → Bool) : Prop :=
  ∀ {A : Around} {E : Value → Shared → Prop} {s : Shared} {Q : Value → Shared → Prop} {v u : Value} {x y : α}, Kp S h₀ s.heap → A.units < 9000 → Rep v x → Rep u y →
    (∀ s', Grow s s' → Q (.bool (eq x y)) s') → wpAny (model prog w) A (compareOp .Eq v u) Q E s

section
variable {prog : Program} {w : World} {α : Type} {S : List Addr} {base h₀ : Heap} {Rep : Value → α → Prop} {V : Value} {X : List α} {eq : α → α → Bool}
  {A : Around} {E : Value → Shared → Prop} {s : Shared} {name : Str} {scope : Scope} {L a : Addr} {cd : Value} {m : Str → Option Value} {outer : List Env}

theorem mkFrames {h : Heap} (B0 : h₀.FunFrames base outer) (kp : Kp S h₀ h) (F : Fr base L h m) (hk : scope.kind = .function := by rfl) : h.FunFrames base (envOf name scope L a cd :: outer) :=
  .cons (by show scope.kind ≠ .module; rw [hk]; decide) rfl F.ns (by
    cases hq : base.get? L with
    | none => rfl
    | some o => exact absurd (Nat.lt_of_lt_of_le (Heap.lt_size hq) F.above) (Nat.lt_irrefl _)) (kp.frames B0)

theorem frKp {h h' : Heap} (F : Fr base L h m) (k : Kp (L :: S) h h') (hS : ∀ b ∈ S, base.get? b = none) : Fr base L h' m := by
  refine ⟨k.ns F.ns, fun b o e => k.keep b o (F.keep b o e) fun q => ?_, F.above⟩
  rcases List.mem_cons.mp q with q | q
  · exact absurd (Nat.lt_of_lt_of_le (Heap.lt_size e) F.above) (by rw [q]; exact Nat.lt_irrefl _)
  · rw [hS b q] at e; cases e

theorem kpDrop {h h' : Heap} (k : Kp S h₀ h) (k' : Kp (L :: S) h h') (hn : h₀.get? L = none) : Kp S h₀ h' := by
  refine ⟨fun b o e n => k'.keep b o (k.keep b o e n) fun q => ?_, fun b o e => let ⟨_, e₁⟩ := k.slot b o e; let ⟨sl, e₂⟩ := k'.slot b _ e₁; ⟨sl, e₂⟩⟩
  rcases List.mem_cons.mp q with q | q
  · rw [q, hn] at e; cases e
  · exact n q
theorem mkFramesX {h h' : Heap} (B0 : h₀.FunFrames base outer) (kp : Kp (outer.filterMap (·.frame)) h₀ h) (F : Fr base L h m) (k' : Kp (L :: outer.filterMap (·.frame)) h h') (hn : h₀.get? L = none) (hk : scope.kind = .function := by rfl) :
    h'.FunFrames base (envOf name scope L a cd :: outer) :=
  mkFrames B0 (kpDrop kp k' hn) (frKp F k' fun _ hb => (B0.mem hb).1) hk

/-- «while xs[ix] == el: ix += 1» -/
theorem inner {xs ix el : Str} {p1 p2 p3 p4 p5 p6 p7 p8 p9 : Pos} {k : Nat} {i : Nat} {ti : Tok} {ve : Value} {x0 : α} {Q : Flow → Shared → Prop}
    (Z : Sq prog w S h₀ Rep V X) (hq : EqOk prog w S h₀ Rep eq) (hS : S = outer.filterMap (·.frame)) (hu : A.units < 8000)
    (hfr : A.frames = some (envOf name scope L a cd :: outer)) (B0 : h₀.FunFrames base outer) (hn : h₀.get? L = none)
    (kp : Kp S h₀ s.heap) (F : Fr base L s.heap m) (hd : Hd A s.heap)
    (mx : m xs = some V) (mi : m ix = some (.int i ti)) (me : m el = some ve) (rx : Rep ve x0) (hi : i ≤ X.length)
    (hQ : ∀ s' m' i' ti', Fr base L s'.heap m' → ExL L s s' → (∀ y, y ≠ ix → m' y = m y) → m' ix = some (.int (i' : Nat) ti') → i ≤ i' → i' < X.length →
      X.drop i' = (X.drop i).dropWhile (fun x => eq x x0) → Q .next s')
    (hE : ∀ sm s' m' ti' e c, Fr base L sm.heap m' → ExL L s sm → (∀ y, y ≠ ix → m' y = m y) → m' ix = some (.int (X.length : Nat) ti') →
      [] = (X.drop i).dropWhile (fun x => eq x x0) → Fly sm.heap.get? (L :: S) e "IndexError" true c s'.heap → s'.heap.FunFrames base (envOf name scope L a cd :: outer) → s'.os = sm.os → s'.gens = sm.gens → (A.handled = none → c = .none) → E (.ref e) s')
    (nxi : xs ≠ ix) (nei : el ≠ ix)
    (hk : scope.kind = .function := by rfl) (kx : (envOf name scope L a cd).kindOf xs = some .local := by rfl) (ki : (envOf name scope L a cd).kindOf ix = some .local := by rfl) (ke : (envOf name scope L a cd).kindOf el = some .local := by rfl)
    (dx : (xs == ("__debug__" : Str)) = false := by decide) (di : (ix == ("__debug__" : Str)) = false := by decide) (de : (el == ("__debug__" : Str)) = false := by decide) :
    wpAny (model prog w) A (exec (.While (.Compare (.Subscript (.Name xs p1) (.Name ix p2) p3) [.Eq] [.Name el p4] p5) [.AugAssign (.Name ix p6) .Add (.Constant (.int 1) k p7) p8] [] p9) (envOf name scope L a cd)) Q E s := by
  subst hS
  refine wpAny_While (codeAny_whileLoop (fun n s₁ => ∃ m₁ i₁ t₁, Fr base L s₁.heap m₁ ∧ ExL L s s₁ ∧ (∀ y, y ≠ ix → m₁ y = m y) ∧ m₁ ix = some (.int (i₁ : Nat) t₁) ∧ i ≤ i₁ ∧ i₁ ≤ X.length ∧
      (X.drop i₁).dropWhile (fun x => eq x x0) = (X.drop i).dropWhile (fun x => eq x x0) ∧ n = X.length - i₁) ?_ (X.length - i) ⟨m, i, ti, F, .refl _ _, fun _ _ => rfl, mi, Nat.le_refl _, hi, rfl, rfl⟩)
  rintro n s₁ ⟨m₁, i₁, t₁, F₁, g₁, em, e1, l1, l2, dw, rfl⟩
  have kp₁ := kpExL kp g₁ hn
  have hd₁ := hdExL hd g₁ (frDict F)
  have lx := Z.len
  refine wpAny_isTrue_Compare1 (Subscript_ (ld F₁ ((em xs nxi).trans mx) (ld F₁ e1 ?_ hk ki di) hk kx dx)) (by with_unfolding_all rfl)
  by_cases hlt : i₁ < X.length
  · refine Z.get kp₁ hlt fun v s₂ g₂ rv => ?_
    have F₂ := frGrow F₁ g₂
    refine ld F₂ ((em el nei).trans me) ?_ hk ke de
    refine hq (kpGrow kp₁ g₂) (by omega) rv rx fun s₃ g₃ => wpAny_truthy_bool ?_
    have F₃ := frGrow F₂ g₃
    have g13 := g₁.trans (g₂.trans g₃).exL
    have dc : X.drop i₁ = X[i₁] :: X.drop (i₁ + 1) := List.drop_eq_getElem_cons hlt
    cases hb : eq X[i₁] x0 with
    | false =>
      rw [if_neg (by decide)]
      refine wpAny_execs_nil (hQ _ m₁ i₁ t₁ F₃ g13 em e1 l1 hlt ?_)
      rw [← dw, dc, List.dropWhile_cons, if_neg (by rw [hb]; decide)]
    | true =>
      rw [if_pos rfl]
      refine wpAny_execs_cons (wpAny_AugAssign_Name (ldn F₃ e1 (wpAny_Constant_int (AutoIntOps.iadd_0 ?_)) hk ki))
      refine st_ (s := _) (frGrow (frGrow F₃ (Grow.toks _ _)) (Grow.toks _ _)) (fun s₄ F₄ g₄ => ?_) hk ki
      refine wpAny_execs_nil ⟨X.length - (i₁ + 1), by omega, _, i₁ + 1, _, F₄, ?_, fun y hy => upd_ne hy (em y hy), upd_same, by omega, by omega, ?_, rfl⟩
      · exact g13.trans ⟨fun b o n e => g₄.keep b o n e, g₄.os, g₄.gens⟩
      · rw [← dw, dc, List.dropWhile_cons, if_pos hb]
  · have he : i₁ = X.length := by omega
    subst he
    refine Z.out (S' := L :: outer.filterMap (·.frame)) kp₁ hd₁ (Nat.le_refl _) (by omega) fun h' tk e c fl hc => ?_
    have FFm := mkFramesX (name := name) (a := a) (cd := cd) B0 kp₁ F₁ fl.kp hn hk
    refine noted_ (hm := s₁.heap.get?) (L := L) hfr FFm rfl fl fun h₂ fl₂ FF₂ => ?_
    refine came_ fl₂ FF₂ fun h₃ fl₃ FF₃ => ?_
    refine hE s₁ _ m₁ t₁ e c F₁ g₁ em e1 ?_ fl₃ FF₃ rfl rfl hc
    rw [← dw]; simp
end

theorem dropWhile_len {α : Type} (p : α → Bool) : ∀ l : List α, (l.dropWhile p).length ≤ l.length
  | [] => Nat.le_refl _
  | x :: l => by
    rw [List.dropWhile_cons]
    split
    · exact Nat.le_trans (dropWhile_len p l) (Nat.le_succ _)
    · exact Nat.le_refl _

/-- what sorted_list_difference reckons -/
def sld {α : Type} (lt : α → α → Option Bool) (gt eq : α → α → Bool) (xs ys : List α) : Option (List α × List α) :=
  match xs, ys with
  | [], ys => some ([], ys)
  | x :: xs, [] => some (x :: xs, [])
  | x :: xs, y :: ys =>
    match lt x y with
    | none => none
    | some true => (sld lt gt eq (xs.dropWhile fun z => eq z x) (y :: ys)).map fun r => (x :: r.1, r.2)
    | some false =>
      if gt x y then (sld lt gt eq (x :: xs) (ys.dropWhile fun z => eq z y)).map fun r => (r.1, y :: r.2)
      else sld lt gt eq (xs.dropWhile fun z => eq z x) (ys.dropWhile fun z => eq z y)
termination_by xs.length + ys.length
decreasing_by
  · have := dropWhile_len (fun z => eq z x) xs; simp only [List.length_cons]; omega
  · have := dropWhile_len (fun z => eq z y) ys; simp only [List.length_cons]; omega
  · have := dropWhile_len (fun z => eq z x) xs; have := dropWhile_len (fun z => eq z y) ys; simp only [List.length_cons]; omega

section
variable {α : Type} {lt : α → α → Option Bool} {gt eq : α → α → Bool}
theorem sld_nil (ys : List α) : sld lt gt eq [] ys = some ([], ys) := by rw [sld]
theorem sld_nil' (xs : List α) : sld lt gt eq xs [] = some (xs, []) := by cases xs <;> rw [sld]
theorem sld_cons (x y : α) (xs ys : List α) : sld lt gt eq (x :: xs) (y :: ys) = match lt x y with
    | none => none
    | some true => (sld lt gt eq (xs.dropWhile fun z => eq z x) (y :: ys)).map fun r => (x :: r.1, r.2)
    | some false =>
      if gt x y then (sld lt gt eq (x :: xs) (ys.dropWhile fun z => eq z y)).map fun r => (r.1, y :: r.2)
      else sld lt gt eq (xs.dropWhile fun z => eq z x) (ys.dropWhile fun z => eq z y) := by rw [sld]
end

/-- the comparisons of two items -/
def LtOk (prog : Program) (w : World) {α : Type} (S : List Addr) (h₀ : Heap) (Rep : Value → α → Prop) (lt : α → α → Option Bool) : Prop :=
  ∀ {A : Around} {E : Value → Shared → Prop} {s : Shared} {Q : Value → Shared → Prop} {v u : Value} {x y : α}, Kp S h₀ s.heap → A.units < 9000 → A.handled = none → Rep v x → Rep u y →
    (∀ b, lt x y = some b → ∀ s', Grow s s' → Q (.bool b) s') → (lt x y = none → ∀ h' tk e, Heap.NewExc s.heap h' e "TypeError" → E (.ref e) { s with heap := h', toks := tk }) →
    wpAny (model prog w) A (compareOp .Lt v u) Q E s
def GtOk (prog : Program) (w : World) {α : Type} (S : List Addr) (h₀ : Heap) (Rep : Value → α → Prop) (lt : α → α → Option Bool) (gt : α → α → Bool) : Prop :=
  ∀ {A : Around} {E : Value → Shared → Prop} {s : Shared} {Q : Value → Shared → Prop} {v u : Value} {x y : α}, Kp S h₀ s.heap → A.units < 9000 → A.handled = none → Rep v x → Rep u y → lt x y = some false →
    (∀ s', Grow s s' → Q (.bool (gt x y)) s') → wpAny (model prog w) A (compareOp .Gt v u) Q E s

/-- a name that the builtins hold; one that the module holds -/
def Bn (base : Heap) (x : Str) (v : Value) : Prop := ∃ mg mb, base.Ns mainGlobals mg ∧ mg x = none ∧ base.Ns builtinsNs mb ∧ mb x = some v
def Gn (base : Heap) (x : Str) (v : Value) : Prop := ∃ mg, base.Ns mainGlobals mg ∧ mg x = some v

theorem frExL {base : Heap} {L D : Addr} {s s' : Shared} {m : Str → Option Value} (F : Fr base L s.heap m) (g : ExL D s s') (hL : L ≠ D) (hb : base.get? D = none) : Fr base L s'.heap m := by
  obtain ⟨o, es, ep, ho, r⟩ := F.ns
  exact ⟨⟨o, es, ep, g.keep _ _ hL ho, r⟩, fun b o e => g.keep _ _ (fun q => by rw [q, hb] at e; cases e) (F.keep b o e), F.above⟩

section
variable {prog : Program} {w : World} {A : Around} {E : Value → Shared → Prop} {s : Shared} {name : Str} {scope : Scope} {L a : Addr} {cd : Value} {base : Heap} {m : Str → Option Value}

theorem nameB {x : Str} {v : Value} {pos : Pos} {Q : Value → Shared → Prop} (F : Fr base L s.heap m) (B : Bn base x v) (h : Q v s)
    (hk : scope.kind = .function := by rfl) (hx : (envOf name scope L a cd).kindOf x = some .globalImplicit := by rfl) (hd : (x == ("__debug__" : Str)) = false := by decide) :
    wpAny (model prog w) A (eval (.Name x pos) (envOf name scope L a cd)) Q E s :=
  let ⟨_, _, g, n, b, v'⟩ := B; ld_builtin_at F g n b v' h hk hx hd
theorem nameG {x : Str} {v : Value} {pos : Pos} {Q : Value → Shared → Prop} (F : Fr base L s.heap m) (B : Gn base x v) (h : Q v s)
    (hk : scope.kind = .function := by rfl) (hx : (envOf name scope L a cd).kindOf x = some .globalImplicit := by rfl) (hd : (x == ("__debug__" : Str)) = false := by decide) :
    wpAny (model prog w) A (eval (.Name x pos) (envOf name scope L a cd)) Q E s :=
  let ⟨_, g, v'⟩ := B; ld_global_at F g v' h hk hx hd

/-- «xs.append(e)» as a statement -/
theorem append_ {on : Str} {e : Expr} {pl : Sem Bool} {p p1 p2 p3 : Pos} {D : Addr} {ms : List Value} {n : Nat} {Q : Flow → Shared → Prop} (F : Fr base L s.heap m) (mo : m on = some (.ref D)) (hD : s.heap.get? D = some (listOf ms.toArray n))
    (hsz : ms.length < 1000000)
    (he : wpAny (model prog w) A (eval e (envOf name scope L a cd)) (fun v s₁ => Grow s s₁ ∧ ∀ s', ExL D s₁ s' → s'.heap.get? D = some (listOf (ms ++ [v]).toArray (n + 1)) → Q .next s') E s)
    (hc : eval (.Call (.Attribute (.Name on p) "append" p1) [e] [] p2) (envOf name scope L a cd) = (do
      let ov ← eval (.Name on p) (envOf name scope L a cd)
      standAt p1.atName
      let (f, first) ← holding [ov] (getMethod ov "append" pl)
      callWith p2 f first (backTo p2 (starEach [e] (envOf name scope L a cd))) []) := by rfl)
    (hs : starEach [e] (envOf name scope L a cd) = [(false, eval e (envOf name scope L a cd))] := by rfl)
    (hk : scope.kind = .function := by rfl) (hl : (envOf name scope L a cd).kindOf on = some .local := by rfl) (hd : (on == ("__debug__" : Str)) = false := by decide) (hi : interactive (envOf name scope L a cd) = false := by rfl) :
    wpAny (model prog w) A (exec (.Expr (.Call (.Attribute (.Name on p) "append" p1) [e] [] p2) p3) (envOf name scope L a cd)) Q E s := by
  refine wpAny_Expr_any (MethodCall_ (ld F mo ?_ hk hl hd) hc) hi rfl
  refine getMethod_builtin ⟨_, hD, rfl⟩ PySem.F.plainAttrs_list slot_list_append PySem.F.type_list_append (fun x q => by cases q; exact ⟨_, hD, rfl⟩) ?_
  refine callWith_method1 (spliced_more (wpAny_mono he (fun v s₁ ⟨g, h⟩ => spliced_none ?_) fun _ _ x => x) hs) hs rfl
  refine append_at (g.keep _ _ hD) (fun h' sb hD' => h _ ⟨fun b o n q => (sb.2 b n).trans q, rfl, rfl⟩ ?_) ?_
  · have q : ms.toArray.push v = (ms ++ [v]).toArray := by simp
    rw [q] at hD'; exact hD'
  · rw [List.size_toArray, sizeLine_eq]; omega

/-- «xs.extend(V[ix:])» as a statement -/
theorem extendCut {α : Type} {S : List Addr} {h₀ : Heap} {Rep : Value → α → Prop} {V : Value} {X : List α} {on xs ix : Str} {pl : Sem Bool} {p p1 p2 p3 q1 q2 q3 q4 : Pos} {D : Addr} {ms : List Value} {n i : Nat} {ti : Tok} {Q : Flow → Shared → Prop}
    (Z : Sq prog w S h₀ Rep V X) (kp : Kp S h₀ s.heap) (hu : A.units < 9000) (F : Fr base L s.heap m) (mo : m on = some (.ref D)) (hD : s.heap.get? D = some (listOf ms.toArray n)) (hsz : ms.length < 100000) (nD : h₀.get? D = none)
    (mx : m xs = some V) (mi : m ix = some (.int (i : Nat) ti)) (hi' : i ≤ X.length)
    (h : ∀ s' vs n', ExL D s s' → s'.heap.get? D = some (listOf (ms ++ vs).toArray n') → All2 Rep vs (X.drop i) → Q .next s')
    (hc : eval (.Call (.Attribute (.Name on p) "extend" p1) [.Subscript (.Name xs q1) (.Slice (some (.Name ix q2)) none none q3) q4] [] p2) (envOf name scope L a cd) = (do
      let ov ← eval (.Name on p) (envOf name scope L a cd)
      standAt p1.atName
      let (f, first) ← holding [ov] (getMethod ov "extend" pl)
      callWith p2 f first (backTo p2 (starEach [.Subscript (.Name xs q1) (.Slice (some (.Name ix q2)) none none q3) q4] (envOf name scope L a cd))) []) := by rfl)
    (hk : scope.kind = .function := by rfl) (hl : (envOf name scope L a cd).kindOf on = some .local := by rfl) (hd : (on == ("__debug__" : Str)) = false := by decide) (hi : interactive (envOf name scope L a cd) = false := by rfl)
    (kx : (envOf name scope L a cd).kindOf xs = some .local := by rfl) (ki : (envOf name scope L a cd).kindOf ix = some .local := by rfl)
    (dx : (xs == ("__debug__" : Str)) = false := by decide) (di : (ix == ("__debug__" : Str)) = false := by decide) :
    wpAny (model prog w) A (exec (.Expr (.Call (.Attribute (.Name on p) "extend" p1) [.Subscript (.Name xs q1) (.Slice (some (.Name ix q2)) none none q3) q4] [] p2) p3) (envOf name scope L a cd)) Q E s := by
  refine wpAny_Expr_any (MethodCall_ (ld F mo ?_ hk hl hd) hc) hi rfl
  refine getMethod_builtin ⟨_, hD, rfl⟩ PySem.F.plainAttrs_list PySem.F.slot_list_extend PySem.F.type_list_extend (fun x q => by cases q; exact ⟨_, hD, rfl⟩) ?_
  refine callWith_method1 (spliced_more (Subscript_ (ld F mx (wpAny_Slice ?_) hk kx dx)) rfl) rfl rfl
  rw [evalPart_some, evalPart_none]
  refine ld F mi (wpAny_pure (wpAny_pure ?_)) hk ki di
  have g : Grow s { s with heap := s.heap.push { cls := .type "slice", data := .fields #[.int (i : Nat) ti, .none, .none] } } := ⟨fun _ _ e => Heap.get?_push_of_some _ e, rfl, rfl⟩
  refine wpAny_mono (Z.cut (E := E) (aM := D) (kpGrow kp g) hu (Heap.IsSliceOf.new ..) hi' (g.keep _ _ hD) hsz nD (Q := fun _ s' => Q .next s') fun s' vs n' g' hD' av => h s' vs n' ((g.exL).trans g') hD' av) (fun W s₁ hW => spliced_none ?_) fun _ _ x => x
  exact hW
end

def stmtAt (p : Program) (i : Nat) : Stmt := p.main.body.getD i (.Pass ⟨0, 0, 0, 0⟩)
def bodyOf : Stmt → List Stmt
  | .FunctionDef _ _ b _ _ _ _ _ _ _ => b
  | .While _ b _ _ => b
  | .Try b _ _ _ _ => b
  | .For _ _ b _ _ => b
  | _ => []
def scopeOf : Stmt → Scope
  | .FunctionDef _ _ _ _ _ _ sc _ _ _ => sc
  | _ => default
def paramsOf : Stmt → Arguments
  | .FunctionDef _ ps _ _ _ _ _ _ _ _ => ps
  | _ => default
def handlersOf : Stmt → List ExceptHandler
  | .Try _ hs _ _ _ => hs
  | _ => []
def nth (l : List Stmt) (i : Nat) : Stmt := l.getD i (.Pass ⟨0, 0, 0, 0⟩)
def sldBody : List Stmt := bodyOf (stmtAt PySem.Challenge.pw_dn0234_03 1)
def sldScope : Scope := scopeOf (stmtAt PySem.Challenge.pw_dn0234_03 1)
def sldTry : Stmt := nth (bodyOf (nth sldBody 3)) 0
abbrev sldEnv (L f : Addr) (cd : Value) : Env := envOf "sorted_list_difference" sldScope L f cd

/-- what the call has made and what stands -/
structure Co (S : List Addr) (h₀ : Heap) (s₀ : Shared) (aM aU : Addr) (s : Shared) (ms us : List Value) : Prop where
  kp : Kp S h₀ s.heap
  M : ∃ n, s.heap.get? aM = some (listOf ms.toArray n)
  U : ∃ n, s.heap.get? aU = some (listOf us.toArray n)
  os : s.os = s₀.os
  gens : s.gens = s₀.gens

section
variable {S : List Addr} {h₀ : Heap} {s₀ s s' : Shared} {L aM aU : Addr} {ms us : List Value}
theorem Co.exL (c : Co S h₀ s₀ aM aU s ms us) (g : ExL L s s') (hn : h₀.get? L = none) (hM : aM ≠ L) (hU : aU ≠ L) : Co S h₀ s₀ aM aU s' ms us :=
  ⟨kpExL c.kp g hn, c.M.imp fun _ q => g.keep _ _ hM q, c.U.imp fun _ q => g.keep _ _ hU q, g.os.trans c.os, g.gens.trans c.gens⟩
theorem Co.grow (c : Co S h₀ s₀ aM aU s ms us) (g : Grow s s') : Co S h₀ s₀ aM aU s' ms us :=
  ⟨kpGrow c.kp g, c.M.imp fun _ q => g.keep _ _ q, c.U.imp fun _ q => g.keep _ _ q, g.os.trans c.os, g.gens.trans c.gens⟩
theorem Co.fly (c : Co S h₀ s₀ aM aU s ms us) (k : Kp (L :: S) s.heap s'.heap) (os : s'.os = s.os) (gens : s'.gens = s.gens) (hn : h₀.get? L = none) (hM : aM ∉ L :: S) (hU : aU ∉ L :: S) : Co S h₀ s₀ aM aU s' ms us :=
  ⟨kpDrop c.kp k hn, c.M.imp fun _ q => k.keep _ _ q hM, c.U.imp fun _ q => k.keep _ _ q hU, os.trans c.os, gens.trans c.gens⟩
theorem Co.setM {ms' : List Value} {n : Nat} (c : Co S h₀ s₀ aM aU s ms us) (g : ExL aM s s') (hq : s'.heap.get? aM = some (listOf ms'.toArray n)) (hn : h₀.get? aM = none) (hU : aU ≠ aM) : Co S h₀ s₀ aM aU s' ms' us :=
  ⟨kpExL c.kp g hn, ⟨n, hq⟩, c.U.imp fun _ q => g.keep _ _ hU q, g.os.trans c.os, g.gens.trans c.gens⟩
theorem Co.setU {us' : List Value} {n : Nat} (c : Co S h₀ s₀ aM aU s ms us) (g : ExL aU s s') (hq : s'.heap.get? aU = some (listOf us'.toArray n)) (hn : h₀.get? aU = none) (hM : aM ≠ aU) : Co S h₀ s₀ aM aU s' ms us' :=
  ⟨kpExL c.kp g hn, c.M.imp fun _ q => g.keep _ _ hM q, ⟨n, hq⟩, g.os.trans c.os, g.gens.trans c.gens⟩
end

/-- the six names that the loop turns on -/
structure Lk (V1 V2 : Value) (aM aU : Addr) (m : Str → Option Value) (i j : Nat) (ti tj : Tok) : Prop where
  x : m "expected" = some V1
  y : m "actual" = some V2
  M : m "missing" = some (.ref aM)
  U : m "unexpected" = some (.ref aU)
  i : m "i" = some (.int (i : Nat) ti)
  j : m "j" = some (.int (j : Nat) tj)

section
variable {V1 V2 : Value} {aM aU : Addr} {m m' : Str → Option Value} {i j i' j' : Nat} {ti tj ti' tj' : Tok}
theorem Lk.setI (k : Lk V1 V2 aM aU m i j ti tj) (h : ∀ y, y ≠ ("i" : Str) → m' y = m y) (hi : m' "i" = some (.int (i' : Nat) ti')) : Lk V1 V2 aM aU m' i' j ti' tj :=
  ⟨(h _ (by decide)).trans k.x, (h _ (by decide)).trans k.y, (h _ (by decide)).trans k.M, (h _ (by decide)).trans k.U, hi, (h _ (by decide)).trans k.j⟩
theorem Lk.setJ (k : Lk V1 V2 aM aU m i j ti tj) (h : ∀ y, y ≠ ("j" : Str) → m' y = m y) (hj : m' "j" = some (.int (j' : Nat) tj')) : Lk V1 V2 aM aU m' i j' ti tj' :=
  ⟨(h _ (by decide)).trans k.x, (h _ (by decide)).trans k.y, (h _ (by decide)).trans k.M, (h _ (by decide)).trans k.U, (h _ (by decide)).trans k.i, hj⟩
theorem Lk.setE (k : Lk V1 V2 aM aU m i j ti tj) (v : Value) : Lk V1 V2 aM aU (upd m "e" v) i j ti tj :=
  ⟨upd_ne (by decide) k.x, upd_ne (by decide) k.y, upd_ne (by decide) k.M, upd_ne (by decide) k.U, upd_ne (by decide) k.i, upd_ne (by decide) k.j⟩
theorem Lk.setA (k : Lk V1 V2 aM aU m i j ti tj) (v : Value) : Lk V1 V2 aM aU (upd m "a" v) i j ti tj :=
  ⟨upd_ne (by decide) k.x, upd_ne (by decide) k.y, upd_ne (by decide) k.M, upd_ne (by decide) k.U, upd_ne (by decide) k.i, upd_ne (by decide) k.j⟩
end

/-- where the reckoning stands -/
def Ma {α : Type} (Rep : Value → α → Prop) (lt : α → α → Option Bool) (gt eq : α → α → Bool) (X Y : List α) (i j : Nat) (ms us : List Value) : Prop :=
  ∃ am au, All2 Rep ms am ∧ All2 Rep us au ∧ am.length ≤ i ∧ au.length ≤ j ∧ sld lt gt eq X Y = (sld lt gt eq (X.drop i) (Y.drop j)).map fun r => (am ++ r.1, au ++ r.2)
def Fi {α : Type} (Rep : Value → α → Prop) (lt : α → α → Option Bool) (gt eq : α → α → Bool) (X Y : List α) (ms us : List Value) : Prop :=
  ∃ r, sld lt gt eq X Y = some r ∧ All2 Rep ms r.1 ∧ All2 Rep us r.2

section
variable {α : Type} {Rep : Value → α → Prop} {lt : α → α → Option Bool} {gt eq : α → α → Bool} {X Y : List α} {i j : Nat} {ms us vs ws : List Value}
theorem Ma.fin (h : Ma Rep lt gt eq X Y i j ms us) (e : i = X.length ∨ j = Y.length) (a : All2 Rep vs (X.drop i)) (b : All2 Rep ws (Y.drop j)) : Fi Rep lt gt eq X Y (ms ++ vs) (us ++ ws) := by
  obtain ⟨am, au, h1, h2, _, _, h3⟩ := h
  refine ⟨(am ++ X.drop i, au ++ Y.drop j), ?_, h1.append a, h2.append b⟩
  rw [h3]
  rcases e with rfl | rfl
  · rw [List.drop_length, sld_nil]; rfl
  · rw [List.drop_length, sld_nil']; rfl
theorem Ma.lenM (h : Ma Rep lt gt eq X Y i j ms us) : ms.length ≤ i := by
  obtain ⟨am, au, h1, _, h2, _⟩ := h; rw [h1.length]; exact h2
theorem Ma.lenU (h : Ma Rep lt gt eq X Y i j ms us) : us.length ≤ j := by
  obtain ⟨am, au, _, h1, _, h2, _⟩ := h; rw [h1.length]; exact h2
end

/-- while hm stands, the frame and the two lists stand -/
def Good (base h₀ : Heap) (S : List Addr) (s₀ : Shared) (L aM aU : Addr) (m : Str → Option Value) (ms us : List Value) (hm : Addr → Option Obj) : Prop :=
  ∀ s' : Shared, (∀ b o, hm b = some o → b ∉ L :: S → s'.heap.get? b = some o) → (∀ b o, hm b = some o → ∃ sl, s'.heap.get? b = some { o with slots := sl }) → s'.os = s₀.os → s'.gens = s₀.gens →
    Fr base L s'.heap m ∧ Co S h₀ s₀ aM aU s' ms us

/-- what is apart from what -/
structure Ap (base h₀ : Heap) (outer : List Env) (L aM aU : Addr) : Prop where
  B0 : h₀.FunFrames base outer
  hb : base.StaysIn h₀
  nL : h₀.get? L = none
  nM : h₀.get? aM = none
  nU : h₀.get? aU = none
  ML : aM ≠ L
  UL : aU ≠ L
  MU : aM ≠ aU

section
variable {base h₀ : Heap} {outer : List Env} {L aM aU : Addr}
theorem Ap.inS (P : Ap base h₀ outer L aM aU) : ∀ b ∈ outer.filterMap (·.frame), h₀.get? b ≠ none := fun b hb' q => by
  obtain ⟨_, o, ho, _⟩ := P.B0.mem hb'
  rw [ho] at q; cases q
theorem Ap.eM (P : Ap base h₀ outer L aM aU) : aM ∉ L :: outer.filterMap (·.frame) := fun q => by
  rcases List.mem_cons.mp q with q | q
  · exact P.ML q
  · exact P.inS _ q P.nM
theorem Ap.eU (P : Ap base h₀ outer L aM aU) : aU ∉ L :: outer.filterMap (·.frame) := fun q => by
  rcases List.mem_cons.mp q with q | q
  · exact P.UL q
  · exact P.inS _ q P.nU
theorem Ap.bn (P : Ap base h₀ outer L aM aU) : ∀ a, h₀.get? a = none → base.get? a = none := fun a q => by
  cases q' : base.get? a with
  | none => rfl
  | some o => rw [P.hb a o q'] at q; cases q
theorem Ap.Sb (P : Ap base h₀ outer L aM aU) : ∀ b ∈ outer.filterMap (·.frame), base.get? b = none := fun _ hb' => (P.B0.mem hb').1

theorem Good.of {s₀ sm : Shared} {m : Str → Option Value} {ms us : List Value} (P : Ap base h₀ outer L aM aU) (F : Fr base L sm.heap m) (C : Co (outer.filterMap (·.frame)) h₀ s₀ aM aU sm ms us) :
    Good base h₀ (outer.filterMap (·.frame)) s₀ L aM aU m ms us sm.heap.get? := fun s' k1 k2 os gens =>
  have k : Kp (L :: outer.filterMap (·.frame)) sm.heap s'.heap := ⟨k1, k2⟩
  ⟨frKp F k P.Sb, C.fly k (os.trans C.os.symm) (gens.trans C.gens.symm) P.nL P.eM P.eU⟩

theorem Good.again {s₀ s : Shared} {m : Str → Option Value} {ms us : List Value} {hm : Addr → Option Obj} (P : Ap base h₀ outer L aM aU) (F : Fr base L s.heap m) (C : Co (outer.filterMap (·.frame)) h₀ s₀ aM aU s ms us)
    (h1 : ∀ b o, s.heap.get? b = some o → (h₀.get? b ≠ none ∨ b = L ∨ b = aM ∨ b = aU) → hm b = some o) : Good base h₀ (outer.filterMap (·.frame)) s₀ L aM aU m ms us hm := by
  intro s' k1 k2 os gens
  have kh : ∀ b o, h₀.get? b = some o → b ∉ outer.filterMap (·.frame) → s'.heap.get? b = some o := fun b o e n => k1 b o (h1 b o (C.kp.keep b o e n) (.inl (by rw [e]; exact fun q => by cases q))) fun q => by
    rcases List.mem_cons.mp q with q | q
    · rw [q, P.nL] at e; cases e
    · exact n q
  refine ⟨⟨?_, fun b o e => kh b o (P.hb b o e) fun q => ?_, F.above⟩, ⟨kh, fun b o e => ?_⟩, ?_, ?_, os, gens⟩
  · obtain ⟨o, es, ep, ho, hd, r⟩ := F.ns
    obtain ⟨sl, q⟩ := k2 L o (h1 L o ho (.inr (.inl rfl)))
    exact ⟨_, es, ep, q, hd, r⟩
  · rw [P.Sb b q] at e; cases e
  · obtain ⟨sl, q⟩ := C.kp.slot b o e
    obtain ⟨sl', q'⟩ := k2 b _ (h1 b _ q (.inl (by rw [e]; exact fun q => by cases q)))
    exact ⟨sl', q'⟩
  · exact C.M.imp fun _ q => k1 _ _ (h1 _ _ q (.inr (.inr (.inl rfl)))) P.eM
  · exact C.U.imp fun _ q => k1 _ _ (h1 _ _ q (.inr (.inr (.inr rfl)))) P.eU
end

section
variable {prog : Program} {w : World} {α : Type} {S : List Addr} {base h₀ : Heap} {Rep : Value → α → Prop} {V1 V2 : Value} {X Y : List α} {lt : α → α → Option Bool} {gt eq : α → α → Bool}
  {A : Around} {E : Value → Shared → Prop} {s s₀ : Shared} {L f aM aU : Addr} {cd : Value} {m : Str → Option Value} {outer : List Env}

/-- the handler: what is left of both is told, and the loop is left -/
theorem handler_ {hm : Addr → Option Obj} {i j : Nat} {ti tj : Tok} {ms us : List Value} {e : Addr} {tr : Bool} {c : Value} {Q : Flow → Shared → Prop}
    (Z1 : Sq prog w (outer.filterMap (·.frame)) h₀ Rep V1 X) (Z2 : Sq prog w (outer.filterMap (·.frame)) h₀ Rep V2 Y) (hu : A.units < 8000) (hI : Bn base "IndexError" (.type "IndexError"))
    (hfr : A.frames = some (sldEnv L f cd :: outer)) (P : Ap base h₀ outer L aM aU) (G : Good base h₀ (outer.filterMap (·.frame)) s₀ L aM aU m ms us hm)
    (K : Lk V1 V2 aM aU m i j ti tj) (li : i ≤ X.length) (lj : j ≤ Y.length) (hM : Ma Rep lt gt eq X Y i j ms us) (hend : i = X.length ∨ j = Y.length)
    (X0 : Fly hm (L :: outer.filterMap (·.frame)) e "IndexError" tr c s.heap) (FF : s.heap.FunFrames base (sldEnv L f cd :: outer)) (os : s.os = s₀.os) (gens : s.gens = s₀.gens)
    (hQ : ∀ s' ms' us', Fr base L s'.heap m → Co (outer.filterMap (·.frame)) h₀ s₀ aM aU s' ms' us' → Fi Rep lt gt eq X Y ms' us' → Q .brk s') :
    wpAny (model prog w) A (noteFrame (.ref e) (sldEnv L f cd)) (fun _ s₂ => wpAny (model prog w) A (setFlight (.ref e) none) (fun _ s₃ => wpAny (model prog w) A (handleBy (.ref e) (sldEnv L f cd) (handlersOf sldTry)) Q E s₃) E s₂) E s := by
  refine note_ (base := base) (L := L) hfr FF rfl X0 fun h₁ X1 FF1 => ?_
  refine flight_ (base := base) X1 FF1 fun h₂ X2 FF2 => ?_
  have F2 := (G { s with heap := h₂ } X2.keep X2.slot os gens).1
  refine wpAny_handleBy_builtin (X := "IndexError") (T := "IndexError") (b := true) PySem.F.isExc_IndexError (by with_unfolding_all rfl) PySem.F.self_IndexError ?_
  refine nameB (s := { s with heap := h₂ }) F2 hI ⟨rfl, ?_, ?_⟩
  · obtain ⟨_, _, _, oe, vs, he, hc, _⟩ := X2
    exact ⟨oe, he, hc⟩
  rw [if_pos rfl]
  refine flight_ (base := base) X2 FF2 fun h₃ X3 FF3 => ?_
  obtain ⟨F3, C3⟩ := G { s with heap := h₃ } X3.keep X3.slot os gens
  obtain ⟨nm, gM⟩ := C3.M
  have lM := hM.lenM
  have lU := hM.lenU
  have lX := Z1.len
  have lY := Z2.len
  refine wpAny_execs_cons (extendCut Z1 C3.kp (by show A.units < 9000; omega) F3 K.M gM (by omega) P.nM K.x K.i li fun s₄ vs n₄ g₄ gM₄ av => ?_)
  have C4 := C3.setM g₄ gM₄ P.nM (Ne.symm P.MU)
  have F4 := frExL (s := { s with heap := h₃ }) F3 g₄ (Ne.symm P.ML) (P.bn _ P.nM)
  obtain ⟨nu, gU⟩ := C4.U
  refine wpAny_execs_cons (extendCut Z2 C4.kp (by show A.units < 9000; omega) F4 K.U gU (by omega) P.nU K.y K.j lj fun s₅ ws n₅ g₅ gU₅ aw => ?_)
  have C5 := C4.setU g₅ gU₅ P.nU P.MU
  have F5 := frExL F4 g₅ (Ne.symm P.UL) (P.bn _ P.nU)
  refine wpAny_execs_cons (wpAny_Break ?_)
  exact hQ s₅ _ _ F5 C5 (hM.fin hend av aw)
end

section
variable {α : Type} {Rep : Value → α → Prop} {lt : α → α → Option Bool} {gt eq : α → α → Bool} {X Y : List α} {i j i' j' : Nat} {ms us : List Value} {v : Value}
theorem Ma.stepNo (h : Ma Rep lt gt eq X Y i j ms us) (hi : i < X.length) (hj : j < Y.length) (hl : lt X[i] Y[j] = none) : sld lt gt eq X Y = none := by
  obtain ⟨am, au, _, _, _, _, h3⟩ := h
  rw [h3, List.drop_eq_getElem_cons hi, List.drop_eq_getElem_cons hj, sld_cons, hl]; rfl
theorem Ma.stepLt (h : Ma Rep lt gt eq X Y i j ms us) (hi : i < X.length) (hj : j < Y.length) (hl : lt X[i] Y[j] = some true) (rv : Rep v X[i]) (hi' : i < i')
    (hd : X.drop i' = (X.drop (i + 1)).dropWhile fun z => eq z X[i]) : Ma Rep lt gt eq X Y i' j (ms ++ [v]) us := by
  obtain ⟨am, au, h1, h2, l1, l2, h3⟩ := h
  refine ⟨am ++ [X[i]], au, h1.append (.cons rv .nil), h2, by simp; omega, l2, ?_⟩
  rw [h3, List.drop_eq_getElem_cons hi, List.drop_eq_getElem_cons hj, sld_cons, hl, hd]
  dsimp only
  rw [Option.map_map]
  congr 1
  funext r
  simp
theorem Ma.stepGt (h : Ma Rep lt gt eq X Y i j ms us) (hi : i < X.length) (hj : j < Y.length) (hl : lt X[i] Y[j] = some false) (hg : gt X[i] Y[j] = true) (rv : Rep v Y[j]) (hj' : j < j')
    (hd : Y.drop j' = (Y.drop (j + 1)).dropWhile fun z => eq z Y[j]) : Ma Rep lt gt eq X Y i j' ms (us ++ [v]) := by
  obtain ⟨am, au, h1, h2, l1, l2, h3⟩ := h
  refine ⟨am, au ++ [Y[j]], h1, h2.append (.cons rv .nil), l1, by simp; omega, ?_⟩
  rw [h3, List.drop_eq_getElem_cons hi, List.drop_eq_getElem_cons hj, sld_cons, hl, hd]
  dsimp only
  rw [if_pos hg, Option.map_map]
  congr 1
  funext r
  simp
theorem Ma.stepEq (h : Ma Rep lt gt eq X Y i j ms us) (hi : i < X.length) (hj : j < Y.length) (hl : lt X[i] Y[j] = some false) (hg : gt X[i] Y[j] = false) (hi' : i < i') (hj' : j < j')
    (hd : X.drop i' = (X.drop (i + 1)).dropWhile fun z => eq z X[i]) (hd' : Y.drop j' = (Y.drop (j + 1)).dropWhile fun z => eq z Y[j]) : Ma Rep lt gt eq X Y i' j' ms us := by
  obtain ⟨am, au, h1, h2, l1, l2, h3⟩ := h
  refine ⟨am, au, h1, h2, by omega, by omega, ?_⟩
  rw [h3, List.drop_eq_getElem_cons hi, List.drop_eq_getElem_cons hj, sld_cons, hl, hd, hd']
  dsimp only
  rw [if_neg (by rw [hg]; decide)]
end

section
variable {prog : Program} {w : World} {α : Type} {base h₀ : Heap} {Rep : Value → α → Prop} {V1 V2 : Value} {X Y : List α} {lt : α → α → Option Bool} {gt eq : α → α → Bool}
  {A : Around} {E : Value → Shared → Prop} {s s₀ : Shared} {L f aM aU : Addr} {cd : Value} {m : Str → Option Value} {outer : List Env}

/-- the loop's state, n turns (at most) ahead of its end -/
def St (base h₀ : Heap) (Rep : Value → α → Prop) (V1 V2 : Value) (X Y : List α) (lt : α → α → Option Bool) (gt eq : α → α → Bool) (s₀ : Shared) (L aM aU : Addr) (outer : List Env) (n : Nat) (s : Shared) : Prop :=
  ∃ m i j ti tj ms us, Fr base L s.heap m ∧ Co (outer.filterMap (·.frame)) h₀ s₀ aM aU s ms us ∧ Lk V1 V2 aM aU m i j ti tj ∧ i ≤ X.length ∧ j ≤ Y.length ∧ Ma Rep lt gt eq X Y i j ms us ∧ (X.length - i) + (Y.length - j) = n
/-- an IndexError is on its way -/
def Ix (base h₀ : Heap) (Rep : Value → α → Prop) (V1 V2 : Value) (X Y : List α) (lt : α → α → Option Bool) (gt eq : α → α → Bool) (s₀ : Shared) (L f aM aU : Addr) (cd : Value) (outer : List Env) (e : Addr) (s : Shared) : Prop :=
  ∃ hm m i j ti tj ms us tr c, Good base h₀ (outer.filterMap (·.frame)) s₀ L aM aU m ms us hm ∧ Lk V1 V2 aM aU m i j ti tj ∧ i ≤ X.length ∧ j ≤ Y.length ∧ Ma Rep lt gt eq X Y i j ms us ∧ (i = X.length ∨ j = Y.length) ∧
    Fly hm (L :: outer.filterMap (·.frame)) e "IndexError" tr c s.heap ∧ s.heap.FunFrames base (sldEnv L f cd :: outer) ∧ s.os = s₀.os ∧ s.gens = s₀.gens
/-- a TypeError is on its way -/
def Tx (base h₀ : Heap) (X Y : List α) (lt : α → α → Option Bool) (gt eq : α → α → Bool) (s₀ : Shared) (L f : Addr) (cd : Value) (outer : List Env) (tr : Bool) (e : Addr) (s : Shared) : Prop :=
  sld lt gt eq X Y = none ∧ ∃ (hm : Heap) (m : Str → Option Value), Fr base L hm m ∧ Kp (outer.filterMap (·.frame)) h₀ hm ∧ Fly hm.get? (L :: outer.filterMap (·.frame)) e "TypeError" tr .none s.heap ∧ s.heap.FunFrames base (sldEnv L f cd :: outer) ∧ s.os = s₀.os ∧ s.gens = s₀.gens

/-- «x += 1» -/
theorem aug1 {name : Str} {scope : Scope} {a : Addr} {x : Str} {p1 p2 p3 : Pos} {k i : Nat} {ti : Tok} {Q : Flow → Shared → Prop} (F : Fr base L s.heap m) (mx : m x = some (.int (i : Nat) ti))
    (h : ∀ s' t, Fr base L s'.heap (upd m x (.int ((i + 1 : Nat) : Int) t)) → ExL L s s' → Q .next s')
    (hk : scope.kind = .function := by rfl) (hl : (envOf name scope L a cd).kindOf x = some .local := by rfl) :
    wpAny (model prog w) A (exec (.AugAssign (.Name x p1) .Add (.Constant (.int 1) k p2) p3) (envOf name scope L a cd)) Q E s := by
  refine wpAny_AugAssign_Name (ldn F mx (wpAny_Constant_int (AutoIntOps.iadd_0 ?_)) hk hl)
  refine st_ (s := _) (frGrow (frGrow F (Grow.toks _ _)) (Grow.toks _ _)) (fun s₇ F₇ g₇ => h s₇ _ F₇ ⟨fun b o n e => g₇.keep b o n e, g₇.os, g₇.gens⟩) hk hl

theorem tryBody_ {n : Nat}
    (Z1 : Sq prog w (outer.filterMap (·.frame)) h₀ Rep V1 X) (Z2 : Sq prog w (outer.filterMap (·.frame)) h₀ Rep V2 Y) (hq : EqOk prog w (outer.filterMap (·.frame)) h₀ Rep eq) (hlt : LtOk prog w (outer.filterMap (·.frame)) h₀ Rep lt) (hgt : GtOk prog w (outer.filterMap (·.frame)) h₀ Rep lt gt)
    (hu : A.units < 8000) (hh : A.handled = none) (hfr : A.frames = some (sldEnv L f cd :: outer)) (P : Ap base h₀ outer L aM aU)
    (h : St base h₀ Rep V1 V2 X Y lt gt eq s₀ L aM aU outer n s) :
    wpAny (model prog w) A (execs (bodyOf sldTry) (sldEnv L f cd)) (fun fl s' => fl = .next ∧ ∃ n', n' < n ∧ St base h₀ Rep V1 V2 X Y lt gt eq s₀ L aM aU outer n' s')
      (fun e s' => ∃ a, e = .ref a ∧ (Ix base h₀ Rep V1 V2 X Y lt gt eq s₀ L f aM aU cd outer a s' ∨ Tx base h₀ X Y lt gt eq s₀ L f cd outer false a s')) s := by
  obtain ⟨m, i, j, ti, tj, ms, us, F, C, K, li, lj, hM, hn⟩ := h
  have lX := Z1.len
  have lY := Z2.len
  have lM := hM.lenM
  have lU := hM.lenU
  -- e = expected[i]
  refine wpAny_execs_cons (wpAny_Assign_Name (Subscript_ (ld F K.x (ld F K.i ?_))))
  rcases Nat.lt_or_eq_of_le li with hi | hi
  case inr =>
    refine Z1.out (S' := L :: outer.filterMap (·.frame)) C.kp (.inl hh) (by omega) (by omega) fun h' tk e c fl hc => ⟨e, rfl, .inl ⟨s.heap.get?, m, i, j, ti, tj, ms, us, false, c, .of P F C, K, li, lj, hM, .inl hi, fl, mkFramesX P.B0 C.kp F fl.kp P.nL, C.os, C.gens⟩⟩
  refine Z1.get C.kp hi fun v s₁ g₁ rv => st_ (frGrow F g₁) fun s₂ F₂ g₂ => ?_
  have C₂ := (C.grow g₁).exL g₂ P.nL P.ML P.UL
  have K₂ := K.setE v
  -- a = actual[j]
  refine wpAny_execs_cons (wpAny_Assign_Name (Subscript_ (ld F₂ K₂.y (ld F₂ K₂.j ?_))))
  rcases Nat.lt_or_eq_of_le lj with hj | hj
  case inr =>
    refine Z2.out (S' := L :: outer.filterMap (·.frame)) C₂.kp (.inl hh) (by omega) (by omega) fun h' tk e c fl hc => ⟨e, rfl, .inl ⟨s₂.heap.get?, _, i, j, ti, tj, ms, us, false, c, .of P F₂ C₂, K₂, li, lj, hM, .inr hj, fl, mkFramesX P.B0 C₂.kp F₂ fl.kp P.nL, C₂.os, C₂.gens⟩⟩
  refine Z2.get C₂.kp hj fun u s₃ g₃ ru => st_ (frGrow F₂ g₃) fun s₄ F₄ g₄ => ?_
  have C₄ := (C₂.grow g₃).exL g₄ P.nL P.ML P.UL
  have K₄ := K₂.setA u
  have me : upd (upd m "e" v) "a" u "e" = some v := upd_ne (by decide) upd_same
  have ma : upd (upd m "e" v) "a" u "a" = some u := upd_same
  generalize hm4 : upd (upd m "e" v) "a" u = m₄ at *
  -- e < a
  refine wpAny_execs_cons (wpAny_If (wpAny_isTrue_Compare1 (ld F₄ me (ld F₄ ma (hlt C₄.kp (by omega) hh rv ru (fun b hb s₅ g₅ => wpAny_truthy_bool ?_) fun hnone h' tk e hx => ?_)))))
  case refine_2 =>
    have fl := Fly.of_new (S := L :: outer.filterMap (·.frame)) hx
    exact ⟨e, rfl, .inr ⟨hM.stepNo hi hj hnone, s₄.heap, m₄, F₄, C₄.kp, fl, mkFramesX P.B0 C₄.kp F₄ fl.kp P.nL, C₄.os, C₄.gens⟩⟩
  have C₅ := C₄.grow g₅
  have F₅ := frGrow F₄ g₅
  cases b with
  | true =>
    rw [if_pos rfl]
    -- missing.append(e)
    obtain ⟨nm, gM⟩ := C₅.M
    refine wpAny_execs_cons (append_ F₅ K₄.M gM (by omega) (ld F₅ me ⟨.refl _, fun s₆ g₆ gM₆ => ?_⟩))
    have C₆ := C₅.setM g₆ gM₆ P.nM (Ne.symm P.MU)
    have F₆ := frExL F₅ g₆ (Ne.symm P.ML) (P.bn _ P.nM)
    -- i += 1
    refine wpAny_execs_cons (aug1 F₆ K₄.i fun s₇ t₇ F₇ g₇ => ?_)
    have C₇ := C₆.exL g₇ P.nL P.ML P.UL
    have K₇ := K₄.setI (m' := upd m₄ "i" (.int ((i + 1 : Nat) : Int) t₇)) (i' := i + 1) (fun y hy => upd_ne hy rfl) upd_same
    -- while expected[i] == e: i += 1
    refine wpAny_execs_cons (inner (x0 := X[i]) Z1 hq rfl hu hfr P.B0 P.nL C₇.kp F₇ (.inl hh) K₇.x K₇.i (upd_ne (by decide) me) rv hi (fun s₈ m₈ i₈ t₈ F₈ g₈ e₈ q₈ l₈ u₈ d₈ => ?_) (fun sm s₈ m₈ t₈ e c F₈ g₈ e₈ q₈ d₈ fl FF os gens hc => ?_) (by decide) (by decide))
    · have C₈ := C₇.exL g₈ P.nL P.ML P.UL
      repeat refine wpAny_execs_nil ?_
      exact ⟨rfl, (X.length - i₈) + (Y.length - j), by omega, m₈, i₈, j, t₈, tj, ms ++ [v], us, F₈, C₈, K₇.setI e₈ q₈, Nat.le_of_lt u₈, lj, hM.stepLt hi hj hb rv (by omega) d₈, rfl⟩
    · have C₈ := C₇.exL g₈ P.nL P.ML P.UL
      exact ⟨e, rfl, .inl ⟨sm.heap.get?, m₈, X.length, j, t₈, tj, ms ++ [v], us, true, c, .of P F₈ C₈, K₇.setI e₈ q₈, Nat.le_refl _, lj, hM.stepLt hi hj hb rv hi (by rw [List.drop_length]; exact d₈), .inl rfl, fl, FF, os.trans C₈.os, gens.trans C₈.gens⟩⟩
  | false =>
    rw [if_neg (by decide)]
    -- e > a
    refine wpAny_execs_cons (wpAny_If (wpAny_isTrue_Compare1 (ld F₅ me (ld F₅ ma (hgt C₅.kp (by omega) hh rv ru hb fun s₆ g₆ => wpAny_truthy_bool ?_)))))
    have C₆ := C₅.grow g₆
    have F₆ := frGrow F₅ g₆
    cases hg : gt X[i] Y[j] with
    | true =>
      rw [if_pos rfl]
      -- unexpected.append(a)
      obtain ⟨nu, gU⟩ := C₆.U
      refine wpAny_execs_cons (append_ F₆ K₄.U gU (by omega) (ld F₆ ma ⟨.refl _, fun s₇ g₇ gU₇ => ?_⟩))
      have C₇ := C₆.setU g₇ gU₇ P.nU P.MU
      have F₇ := frExL F₆ g₇ (Ne.symm P.UL) (P.bn _ P.nU)
      refine wpAny_execs_cons (aug1 F₇ K₄.j fun s₈ t₈ F₈ g₈ => ?_)
      have C₈ := C₇.exL g₈ P.nL P.ML P.UL
      have K₈ := K₄.setJ (m' := upd m₄ "j" (.int ((j + 1 : Nat) : Int) t₈)) (j' := j + 1) (fun y hy => upd_ne hy rfl) upd_same
      refine wpAny_execs_cons (inner (x0 := Y[j]) Z2 hq rfl hu hfr P.B0 P.nL C₈.kp F₈ (.inl hh) K₈.y K₈.j (upd_ne (by decide) ma) ru hj (fun s₉ m₉ j₉ t₉ F₉ g₉ e₉ q₉ l₉ u₉ d₉ => ?_) (fun sm s₉ m₉ t₉ e c F₉ g₉ e₉ q₉ d₉ fl FF os gens hc => ?_) (by decide) (by decide))
      · have C₉ := C₈.exL g₉ P.nL P.ML P.UL
        repeat refine wpAny_execs_nil ?_
        exact ⟨rfl, (X.length - i) + (Y.length - j₉), by omega, m₉, i, j₉, ti, t₉, ms, us ++ [u], F₉, C₉, K₈.setJ e₉ q₉, li, Nat.le_of_lt u₉, hM.stepGt hi hj hb hg ru (by omega) d₉, rfl⟩
      · have C₉ := C₈.exL g₉ P.nL P.ML P.UL
        exact ⟨e, rfl, .inl ⟨sm.heap.get?, m₉, i, Y.length, ti, t₉, ms, us ++ [u], true, c, .of P F₉ C₉, K₈.setJ e₉ q₉, li, Nat.le_refl _, hM.stepGt hi hj hb hg ru hj (by rw [List.drop_length]; exact d₉), .inr rfl, fl, FF, os.trans C₉.os, gens.trans C₉.gens⟩⟩
    | false =>
      rw [if_neg (by decide)]
      -- i += 1
      refine wpAny_execs_cons (aug1 F₆ K₄.i fun s₇ t₇ F₇ g₇ => ?_)
      have C₇ := C₆.exL g₇ P.nL P.ML P.UL
      have K₇ := K₄.setI (m' := upd m₄ "i" (.int ((i + 1 : Nat) : Int) t₇)) (i' := i + 1) (fun y hy => upd_ne hy rfl) upd_same
      have me₇ : upd m₄ "i" (.int ((i + 1 : Nat) : Int) t₇) "e" = some v := upd_ne (by decide) me
      have ma₇ : upd m₄ "i" (.int ((i + 1 : Nat) : Int) t₇) "a" = some u := upd_ne (by decide) ma
      generalize upd m₄ "i" (.int ((i + 1 : Nat) : Int) t₇) = m₇ at *
      refine wpAny_execs_cons (wpAny_Try_finally (wpAny_execs_cons (inner (x0 := X[i]) Z1 hq rfl hu hfr P.B0 P.nL C₇.kp F₇ (.inl hh) K₇.x K₇.i me₇ rv hi (fun s₈ m₈ i₈ t₈ F₈ g₈ e₈ q₈ l₈ u₈ d₈ => ?_) (fun sm s₈ m₈ t₈ e c F₈ g₈ e₈ q₈ d₈ fl FF os gens hc => ?_) (by decide) (by decide))))
      · -- the first run ended
        have C₈ := C₇.exL g₈ P.nL P.ML P.UL
        have K₈ := K₇.setI e₈ q₈
        refine wpAny_execs_nil (wpAny_execs_nil (wpAny_execs_cons (aug1 F₈ K₈.j fun s₉ t₉ F₉ g₉ => ?_)))
        have C₉ := C₈.exL g₉ P.nL P.ML P.UL
        have K₉ := K₈.setJ (m' := upd m₈ "j" (.int ((j + 1 : Nat) : Int) t₉)) (j' := j + 1) (fun y hy => upd_ne hy rfl) upd_same
        refine wpAny_execs_cons (inner (x0 := Y[j]) Z2 hq rfl hu hfr P.B0 P.nL C₉.kp F₉ (.inl hh) K₉.y K₉.j (upd_ne (by decide) ((e₈ _ (by decide)).trans ma₇)) ru hj (fun s₁₀ m₁₀ j₁₀ t₁₀ F₁₀ g₁₀ e₁₀ q₁₀ l₁₀ u₁₀ d₁₀ => ?_) (fun sm s₁₀ m₁₀ t₁₀ e c F₁₀ g₁₀ e₁₀ q₁₀ d₁₀ fl FF os gens hc => ?_) (by decide) (by decide))
        · have C₁₀ := C₉.exL g₁₀ P.nL P.ML P.UL
          repeat refine wpAny_execs_nil ?_
          exact ⟨rfl, (X.length - i₈) + (Y.length - j₁₀), by omega, m₁₀, i₈, j₁₀, t₈, t₁₀, ms, us, F₁₀, C₁₀, K₉.setJ e₁₀ q₁₀, Nat.le_of_lt u₈, Nat.le_of_lt u₁₀, hM.stepEq hi hj hb hg (by omega) (by omega) d₈ d₁₀, rfl⟩
        · have C₁₀ := C₉.exL g₁₀ P.nL P.ML P.UL
          refine noted_ (L := L) hfr FF rfl fl fun h₁ fl₁ FF₁ => came_ fl₁ FF₁ fun h₂ fl₂ FF₂ => ?_
          exact ⟨e, rfl, .inl ⟨sm.heap.get?, m₁₀, i₈, Y.length, t₈, t₁₀, ms, us, true, c, .of P F₁₀ C₁₀, K₉.setJ e₁₀ q₁₀, Nat.le_of_lt u₈, Nat.le_refl _, hM.stepEq hi hj hb hg (by omega) hj d₈ (by rw [List.drop_length]; exact d₁₀), .inr rfl, fl₂, FF₂, os.trans C₁₀.os, gens.trans C₁₀.gens⟩⟩
      · -- the first run ran out
        have C₈ := C₇.exL g₈ P.nL P.ML P.UL
        have K₈ := K₇.setI e₈ q₈
        have hc' := hc hh
        subst hc'
        refine note_ (L := L) hfr FF rfl fl fun h₁ fl₁ FF₁ => ⟨(fun q => by cases q), note_ (L := L) hfr FF₁ rfl fl₁ fun h₂ fl₂ FF₂ => flight_ fl₂ FF₂ fun h₃ fl₃ FF₃ => ?_⟩
        obtain ⟨F₃, C₃⟩ := Good.of P F₈ C₈ { s₈ with heap := h₃ } fl₃.keep fl₃.slot (os.trans C₈.os) (gens.trans C₈.gens)
        refine wpAny_execs_cons (aug1 F₃ K₈.j fun s₉ t₉ F₉ g₉ => ?_)
        have C₉ := C₃.exL g₉ P.nL P.ML P.UL
        have K₉ := K₈.setJ (m' := upd m₈ "j" (.int ((j + 1 : Nat) : Int) t₉)) (j' := j + 1) (fun y hy => upd_ne hy rfl) upd_same
        have hd₉ : Hd (A.mark (some (.ref e))) s₉.heap := by
          refine hdExL (s := { s₈ with heap := h₃ }) (.inr ?_) g₉ (frDict F₃)
          obtain ⟨_, _, _, oe, vs, he, _, hd, _, h2, _⟩ := fl₃
          exact ⟨e, oe, vs, rfl, he, hd, h2⟩
        refine wpAny_execs_cons (inner (x0 := Y[j]) Z2 hq rfl hu hfr P.B0 P.nL C₉.kp F₉ hd₉ K₉.y K₉.j (upd_ne (by decide) ((e₈ _ (by decide)).trans ma₇)) ru hj (fun s₁₀ m₁₀ j₁₀ t₁₀ F₁₀ g₁₀ e₁₀ q₁₀ l₁₀ u₁₀ d₁₀ => ?_) (fun sm' s₁₀ m₁₀ t₁₀ e' c' F₁₀ g₁₀ e₁₀ q₁₀ d₁₀ fl' FF' os' gens' hc' => ?_) (by decide) (by decide))
        · -- the second run ended: the first error goes on
          have C₁₀ := C₉.exL g₁₀ P.nL P.ML P.UL
          have g := g₉.trans g₁₀
          obtain ⟨hm', fl₄, k₄⟩ := fl₃.anew (h' := s₁₀.heap) (frDict F₃) g.keep
          refine wpAny_execs_nil (passOn_ fl₄ (mkFrames (name := "sorted_list_difference") (scope := sldScope) (a := f) (cd := cd) P.B0 C₁₀.kp F₁₀) fun h₅ fl₅ FF₅ => ?_)
          have G : Good base h₀ (outer.filterMap (·.frame)) s₀ L aM aU m₁₀ ms us hm' := by
            refine Good.again P F₁₀ C₁₀ fun b o q w => k₄ b o ?_ q
            rcases w with w | rfl | rfl | rfl
            · intro r
              cases q' : h₀.get? b with
              | none => exact w q'
              | some o' => obtain ⟨sl, q''⟩ := C₈.kp.slot b o' q'; rw [r] at q''; cases q''
            · obtain ⟨o', _, _, q', _⟩ := F₈.ns
              rw [q']; exact fun r => by cases r
            · obtain ⟨_, q'⟩ := C₈.M
              rw [q']; exact fun r => by cases r
            · obtain ⟨_, q'⟩ := C₈.U
              rw [q']; exact fun r => by cases r
          exact ⟨e, rfl, .inl ⟨hm', m₁₀, X.length, j₁₀, t₈, t₁₀, ms, us, true, _, G, K₉.setJ e₁₀ q₁₀, Nat.le_refl _, Nat.le_of_lt u₁₀, hM.stepEq hi hj hb hg hi (by omega) (by rw [List.drop_length]; exact d₈) d₁₀, .inl rfl, fl₅, FF₅, C₁₀.os, C₁₀.gens⟩⟩
        · -- the second one ran out, too
          have C₁₀ := C₉.exL g₁₀ P.nL P.ML P.UL
          refine noted_ (L := L) hfr FF' rfl fl' fun h₁ fl₁ FF₁ => came_ fl₁ FF₁ fun h₂ fl₂ FF₂ => ?_
          exact ⟨e', rfl, .inl ⟨sm'.heap.get?, m₁₀, X.length, Y.length, t₈, t₁₀, ms, us, true, c', .of P F₁₀ C₁₀, K₉.setJ e₁₀ q₁₀, Nat.le_refl _, Nat.le_refl _, hM.stepEq hi hj hb hg hi hj (by rw [List.drop_length]; exact d₈) (by rw [List.drop_length]; exact d₁₀), .inr rfl, fl₂, FF₂, os'.trans C₁₀.os, gens'.trans C₁₀.gens⟩⟩
end

abbrev tupOf (vs : List Value) : Obj := { cls := .type "tuple", data := .seq vs.toArray }

section
variable {M : Model} {A : Around} {E : Value → Shared → Prop} {s : Shared}
theorem newList_ {vs : List Value} {Q : Value → Shared → Prop} (h : ∀ s' D, Grow s s' → s'.heap.get? D = some (listOf vs.toArray 0) → s.heap.get? D = none → Q (.ref D) s') (hz : vs.length ≤ 10000000 := by simp) : wpAny M A (newList vs) Q E s :=
  wpAny_newObj_type (h _ _ ⟨fun _ _ e => Heap.get?_push_of_some _ e, rfl, rfl⟩ (Heap.get?_push_size _ rfl) (Heap.get?_none_of_le (Nat.le_refl _))) (by show vs.toArray.size ≤ sizeLine; rw [List.size_toArray, sizeLine_eq]; omega)
theorem newTuple_ {vs : List Value} {Q : Value → Shared → Prop} (h : ∀ s' D, Grow s s' → s'.heap.get? D = some (tupOf vs) → s.heap.get? D = none → Q (.ref D) s') (hz : vs.length ≤ 10000000 := by simp) : wpAny M A (newTuple vs) Q E s :=
  wpAny_newObj_type (h _ _ ⟨fun _ _ e => Heap.get?_push_of_some _ e, rfl, rfl⟩ (Heap.get?_push_size _ rfl) (Heap.get?_none_of_le (Nat.le_refl _))) (by show vs.toArray.size ≤ sizeLine; rw [List.size_toArray, sizeLine_eq]; omega)
end

theorem type_not_index : isSubtype (.type "TypeError") (.type "IndexError") = pure false := by rw [isSubtype_type]; kernel_rfl

section
variable {prog : Program} {w : World} {α : Type} {base h₀ : Heap} {Rep : Value → α → Prop} {V1 V2 : Value} {X Y : List α} {lt : α → α → Option Bool} {gt eq : α → α → Bool}
  {A : Around} {E : Value → Shared → Prop} {s s₀ : Shared} {L f aM aU : Addr} {cd : Value} {m : Str → Option Value} {outer : List Env}

theorem sld_loop {Q : Flow → Shared → Prop} {n : Nat}
    (Z1 : Sq prog w (outer.filterMap (·.frame)) h₀ Rep V1 X) (Z2 : Sq prog w (outer.filterMap (·.frame)) h₀ Rep V2 Y) (hq : EqOk prog w (outer.filterMap (·.frame)) h₀ Rep eq) (hlt : LtOk prog w (outer.filterMap (·.frame)) h₀ Rep lt) (hgt : GtOk prog w (outer.filterMap (·.frame)) h₀ Rep lt gt)
    (hu : A.units < 8000) (hh : A.handled = none) (hfr : A.frames = some (sldEnv L f cd :: outer)) (P : Ap base h₀ outer L aM aU) (hI : Bn base "IndexError" (.type "IndexError"))
    (h : St base h₀ Rep V1 V2 X Y lt gt eq s₀ L aM aU outer n s)
    (hQ : ∀ s' m ms us, Fr base L s'.heap m → m "missing" = some (.ref aM) → m "unexpected" = some (.ref aU) → Co (outer.filterMap (·.frame)) h₀ s₀ aM aU s' ms us → Fi Rep lt gt eq X Y ms us → Q .next s')
    (hE : ∀ e s', Tx base h₀ X Y lt gt eq s₀ L f cd outer true e s' → E (.ref e) s') :
    wpAny (model prog w) A (exec (nth sldBody 3) (sldEnv L f cd)) Q E s := by
  refine wpAny_While (codeAny_whileLoop (fun n s => St base h₀ Rep V1 V2 X Y lt gt eq s₀ L aM aU outer n s) ?_ n h)
  intro n s₁ h₁
  refine isTrue_plain (Constant_bool (wpAny_truthy_bool ?_))
  rw [if_pos rfl]
  refine wpAny_execs_cons (wpAny_Try_except (wpAny_mono (tryBody_ (f := f) (cd := cd) Z1 Z2 hq hlt hgt hu hh hfr P h₁) (fun fl s₂ h₂ => ?_) fun e s₂ h₂ => ?_))
  · obtain ⟨rfl, n', l, h₂⟩ := h₂
    repeat refine wpAny_execs_nil ?_
    exact ⟨n', l, h₂⟩
  · obtain ⟨ea, rfl, h₂⟩ := h₂
    rcases h₂ with h₂ | h₂
    · obtain ⟨hm, m, i, j, ti, tj, ms, us, tr, c, G, K, li, lj, hM, he, fl, FF, os, gens⟩ := h₂
      refine handler_ Z1 Z2 hu hI hfr P G K li lj hM he fl FF os gens fun s' ms' us' F' C' hF => ?_
      exact hQ s' m ms' us' F' K.M K.U C' hF
    · obtain ⟨hn, hm, m, F, kp, fl, FF, os, gens⟩ := h₂
      refine note_ (L := L) hfr FF rfl fl fun h₃ fl₃ FF₃ => flight_ fl₃ FF₃ fun h₄ fl₄ FF₄ => ?_
      refine wpAny_handleBy_builtin (X := "TypeError") (T := "IndexError") (b := false) PySem.F.isExc_IndexError (by with_unfolding_all rfl) type_not_index ?_
      refine nameB (s := { s₂ with heap := h₄ }) (frKp F fl₄.kp P.Sb) hI ⟨rfl, ?_, ?_⟩
      · obtain ⟨_, _, _, oe, vs, he, hc, _⟩ := fl₄
        exact ⟨oe, he, hc⟩
      rw [if_neg (by decide)]
      refine wpAny_handleBy_nil (passOn_ fl₄ FF₄ fun h₅ fl₅ FF₅ => noted_ (L := L) hfr FF₅ rfl fl₅ fun h₆ fl₆ FF₆ => came_ fl₆ FF₆ fun h₇ fl₇ FF₇ => ?_)
      exact hE ea _ ⟨hn, hm, m, F, kp, fl₇, FF₇, os, gens⟩

theorem sld_body {Q : Flow → Shared → Prop}
    (Z1 : Sq prog w (outer.filterMap (·.frame)) h₀ Rep V1 X) (Z2 : Sq prog w (outer.filterMap (·.frame)) h₀ Rep V2 Y) (hq : EqOk prog w (outer.filterMap (·.frame)) h₀ Rep eq) (hlt : LtOk prog w (outer.filterMap (·.frame)) h₀ Rep lt) (hgt : GtOk prog w (outer.filterMap (·.frame)) h₀ Rep lt gt)
    (hu : A.units < 8000) (hh : A.handled = none) (hfr : A.frames = some (sldEnv L f cd :: outer)) (B0 : h₀.FunFrames base outer) (hb : base.StaysIn h₀) (nL : h₀.get? L = none) (hI : Bn base "IndexError" (.type "IndexError"))
    (F : Fr base L s.heap m) (kp : Kp (outer.filterMap (·.frame)) h₀ s.heap) (mx : m "expected" = some V1) (my : m "actual" = some V2)
    (hQ : ∀ s' t aM aU ms us n1 n2, Kp (outer.filterMap (·.frame)) h₀ s'.heap → s'.os = s.os → s'.gens = s.gens → s'.heap.get? t = some (tupOf [.ref aM, .ref aU]) → h₀.get? t = none →
      s'.heap.get? aM = some (listOf ms.toArray n1) → s'.heap.get? aU = some (listOf us.toArray n2) → h₀.get? aM = none → h₀.get? aU = none → aM ≠ aU → Fi Rep lt gt eq X Y ms us → Q (.ret (.ref t)) s')
    (hE : ∀ e s', Tx base h₀ X Y lt gt eq s L f cd outer true e s' → E (.ref e) s') :
    wpAny (model prog w) A (execs sldBody (sldEnv L f cd)) Q E s := by
  -- i = j = 0
  refine wpAny_execs_cons (wpAny_Assign_two (wpAny_Constant_int (assign_Name (st_ (s := _) (frGrow F (Grow.toks _ _)) fun s₁ F₁ g₁ => assign_Name (st_ F₁ fun s₂ F₂ g₂ => ?_)))))
  have g02 : ExL L s s₂ := (Grow.toks s (s.toks + 1)).exL.trans (g₁.trans g₂)
  -- missing = []
  refine wpAny_execs_cons (wpAny_Assign_Name (List_ (spliced_none (newList_ fun s₃ aM g₃ gM nM => st_ (frGrow F₂ g₃) fun s₄ F₄ g₄ => ?_))))
  -- unexpected = []
  refine wpAny_execs_cons (wpAny_Assign_Name (List_ (spliced_none (newList_ fun s₅ aU g₅ gU nU => st_ (frGrow F₄ g₅) fun s₆ F₆ g₆ => ?_))))
  have lL : ∀ {s : Shared} {m : Str → Option Value}, Fr base L s.heap m → s.heap.get? L ≠ none := fun F q => by
    obtain ⟨o, _, _, e, _⟩ := F.ns
    rw [e] at q; cases q
  have ML : aM ≠ L := fun q => lL F₂ (q ▸ nM)
  have UL : aU ≠ L := fun q => lL F₄ (q ▸ nU)
  have gM₄ := g₄.keep _ _ ML gM
  have MU : aM ≠ aU := fun q => by rw [q, nU] at gM₄; cases gM₄
  have kp₂ := kpExL kp g02 nL
  have kp₄ := kpExL (kpGrow kp₂ g₃) g₄ nL
  have hn : ∀ {h : Heap} {a : Addr}, Kp (outer.filterMap (·.frame)) h₀ h → h.get? a = none → h₀.get? a = none := fun {h a} k q => by
    cases q' : h₀.get? a with
    | none => rfl
    | some o => obtain ⟨sl, q''⟩ := k.slot _ _ q'; rw [q] at q''; cases q''
  have P : Ap base h₀ outer L aM aU := ⟨B0, hb, nL, hn kp₂ nM, hn kp₄ nU, ML, UL, MU⟩
  have C : Co (outer.filterMap (·.frame)) h₀ s aM aU s₆ [] [] :=
    ⟨kpExL (kpGrow kp₄ g₅) g₆ nL, ⟨0, g₆.keep _ _ ML (g₅.keep _ _ gM₄)⟩, ⟨0, g₆.keep _ _ UL gU⟩, g₆.os.trans (g₅.os.trans (g₄.os.trans (g₃.os.trans g02.os))), g₆.gens.trans (g₅.gens.trans (g₄.gens.trans (g₃.gens.trans g02.gens)))⟩
  refine wpAny_execs_cons (sld_loop (s₀ := s) (aM := aM) (aU := aU) (n := X.length + Y.length) Z1 Z2 hq hlt hgt hu hh hfr P hI ⟨_, 0, 0, s.toks, s.toks, [], [], F₆, C, ⟨?_, ?_, ?_, upd_same, ?_, ?_⟩, Nat.zero_le _, Nat.zero_le _, ⟨[], [], .nil, .nil, Nat.le_refl _, Nat.le_refl _, ?_⟩, rfl⟩ (fun s₇ m₇ ms us F₇ eM eU C₇ fi => ?_) hE)
  · exact upd_ne (by decide) (upd_ne (by decide) (upd_ne (by decide) (upd_ne (by decide) mx)))
  · exact upd_ne (by decide) (upd_ne (by decide) (upd_ne (by decide) (upd_ne (by decide) my)))
  · exact upd_ne (by decide) upd_same
  · exact upd_ne (by decide) (upd_ne (by decide) (upd_ne (by decide) upd_same))
  · exact upd_ne (by decide) (upd_ne (by decide) upd_same)
  · simp
  -- return (missing, unexpected)
  refine wpAny_execs_cons (wpAny_Return_some (Tuple_ (spliced_more (ld F₇ eM (spliced_more (ld F₇ eU (spliced_none (newTuple_ fun s₈ t g₈ gt' nt => ?_))))))))
  obtain ⟨n1, e1⟩ := C₇.M
  obtain ⟨n2, e2⟩ := C₇.U
  exact hQ s₈ t aM aU ms us n1 n2 (kpGrow C₇.kp g₈) (g₈.os.trans C₇.os) (g₈.gens.trans C₇.gens) gt' (hn C₇.kp nt) (g₈.keep _ _ e1) (g₈.keep _ _ e2) P.nM P.nU MU fi
end

/-- the def st, made by the top, lies at f -/
def Fn (h : Heap) (f : Addr) (name : Str) (st : Stmt) (cd : Value) : Prop :=
  (∃ o doc pm an ct, h.get? f = some o ∧ o.data = .func (fnOf name name (paramsOf st) (bodyOf st) (scopeOf st) .none .none doc pm an cd ct)) ∧ h.CodeRec cd name
theorem Fn.keep {h h' : Heap} {f : Addr} {name : Str} {st : Stmt} {cd : Value} (x : Fn h f name st cd) (k : ∀ b o, h.get? b = some o → h'.get? b = some o) : Fn h' f name st cd :=
  ⟨x.1.imp fun _ ⟨a, b, c, d, e, g⟩ => ⟨a, b, c, d, k _ _ e, g⟩, x.2.keeps k⟩

theorem fn_of_K {K : Frag} {h : Heap} (X : K.In h) {f : Addr} {name : Str} {st : Stmt} {cd doc pm ct oc : Value} {an od : Option Addr} {osl : Array (Option Value)}
    (e : K.lookup f = some ⟨oc, od, .func (fnOf name name (paramsOf st) (bodyOf st) (scopeOf st) .none .none doc pm an cd ct), osl⟩) (ec : codeIn K cd name = true) : Fn h f name st cd :=
  ⟨⟨_, doc, pm, an, ct, X _ _ e, rfl⟩, codeRec_of X ec⟩

section
variable {prog : Program} {w : World} {A : Around} {E : Value → Shared → Prop} {s : Shared} {base : Heap}

theorem callFn {R : Result → Shared → Prop} {st : Stmt} {name : Str} {f : Addr} {cd : Value} {args : List Value} {binds : List (Str × Value)}
    (fn : Fn s.heap f name st cd) (lim : s.heap.NoLimit) (hroom : A.depth < recursionLimit)
    (hbind : ∀ doc pm an ct, bindArgs (fnOf name name (paramsOf st) (bodyOf st) (scopeOf st) .none .none doc pm an cd ct) ⟨args, []⟩ = pure binds)
    (hloc : ∀ x ∈ binds, (scopeOf st).names.lookup x.1 = some .local)
    (h : ∀ s₁, Fr s.heap s.heap.objs.size s₁.heap (fun x => binds.reverse.lookup x) → Grow s s₁ →
      wpAny (model prog w) (A.deeper (envOf name (scopeOf st) s.heap.objs.size f cd)) (execs (bodyOf st) (envOf name (scopeOf st) s.heap.objs.size f cd))
        (fun fl s' => R (.ok (.ret (match fl with | .ret v => v | _ => .none))) s')
        (fun e s' => wpAny (model prog w) (A.deeper (envOf name (scopeOf st) s.heap.objs.size f cd)) (leaving (envOf name (scopeOf st) s.heap.objs.size f cd) e) (fun _ s'' => R (.error e) s'') (fun e' s'' => R (.error e') s'') s') s₁)
    (hcell : ∀ x ∈ (scopeOf st).names, x.2 ≠ .cell) (hco : (scopeOf st).isCoroutine = false := by rfl) (hgen : (scopeOf st).isGenerator = false := by rfl) (hk : (scopeOf st).kind = .function := by rfl) :
    codeAny (model prog w) A (.call (.ref f) ⟨args, []⟩) R s := by
  obtain ⟨⟨o, doc, pm, an, ct, ho, hd⟩, hcd⟩ := fn
  refine codeAny_call_def hroom ho hd lim hcd rfl (.of_eq (hbind doc pm an ct)) hcell hloc (fun h₁ hns hkp => ?_) hco hgen hk
  exact h _ ⟨hns, hkp, Nat.le_refl _⟩ ⟨hkp, rfl, rfl⟩

theorem callName {x name cn : Str} {cs : Scope} {ca L f : Addr} {ccd cd : Value} {st : Stmt} {m : Str → Option Value} {e : Expr} {rest : List Expr} {p pos : Pos} {Q : Value → Shared → Prop}
    (F : Fr base L s.heap m) (G : Gn base x (.ref f)) (fn : Fn base f name st cd)
    (h : wpAny (model prog w) A (spliced (backTo pos (starEach (e :: rest) (envOf cn cs L ca ccd)))) (fun vs s₁ => base.StaysIn s₁.heap ∧
      codeAny (model prog w) A (.call (.ref f) ⟨vs, []⟩) (fun r s' => match r with | .ok (.ret v) => Q v s' | .ok _ => False | .error e => E e s') s₁) E s)
    (he : starEach (e :: rest) (envOf cn cs L ca ccd) = (false, eval e (envOf cn cs L ca ccd)) :: starEach rest (envOf cn cs L ca ccd) := by rfl)
    (hc : eval (.Call (.Name x p) (e :: rest) [] pos) (envOf cn cs L ca ccd) = (do callWith pos (← eval (.Name x p) (envOf cn cs L ca ccd)) [] (backTo pos (starEach (e :: rest) (envOf cn cs L ca ccd))) (backToKw pos (keywordEach [] (envOf cn cs L ca ccd)))) := by rfl)
    (hk : cs.kind = .function := by rfl) (hx : (envOf cn cs L ca ccd).kindOf x = some .globalImplicit := by rfl) (hd : (x == ("__debug__" : Str)) = false := by decide) :
    wpAny (model prog w) A (eval (.Call (.Name x p) (e :: rest) [] pos) (envOf cn cs L ca ccd)) Q E s := by
  obtain ⟨⟨o, doc, pm, an, ct, ho, hd'⟩, _⟩ := fn
  refine Call_ (nameG F G ?_ hk hx hd) hc
  refine callWith_def hd' (wpAny_mono h (fun vs s₁ h₁ => ⟨h₁.1 _ _ ho, wpAny_call h₁.2⟩) fun _ _ x => x) he
end

section
variable {prog : Program} {w : World} {α : Type} {base : Heap} {Rep : Value → α → Prop} {V1 V2 : Value} {X Y : List α} {lt : α → α → Option Bool} {gt eq : α → α → Bool}
  {A : Around} {s : Shared} {f : Addr} {cd : Value} {outer : List Env}

/-- a call of sorted_list_difference -/
theorem sld_call {R : Result → Shared → Prop}
    (Z1 : Sq prog w (outer.filterMap (·.frame)) s.heap Rep V1 X) (Z2 : Sq prog w (outer.filterMap (·.frame)) s.heap Rep V2 Y) (hq : EqOk prog w (outer.filterMap (·.frame)) s.heap Rep eq) (hlt : LtOk prog w (outer.filterMap (·.frame)) s.heap Rep lt) (hgt : GtOk prog w (outer.filterMap (·.frame)) s.heap Rep lt gt)
    (hu : A.units < 7000) (hr : A.depth < recursionLimit) (hh : A.handled = none) (B : Below A base outer s.heap) (hsz : base.objs.size ≤ s.heap.objs.size) (lim : base.NoLimit) (hI : Bn base "IndexError" (.type "IndexError"))
    (fn : Fn base f "sorted_list_difference" (stmtAt PySem.Challenge.pw_dn0234_03 1) cd)
    (hR : ∀ s' t aM aU ms us n1 n2, Kp (outer.filterMap (·.frame)) s.heap s'.heap → s'.os = s.os → s'.gens = s.gens → s'.heap.get? t = some (tupOf [.ref aM, .ref aU]) → s.heap.get? t = none →
      s'.heap.get? aM = some (listOf ms.toArray n1) → s'.heap.get? aU = some (listOf us.toArray n2) → s.heap.get? aM = none → s.heap.get? aU = none → aM ≠ aU → Fi Rep lt gt eq X Y ms us → R (.ok (.ret (.ref t))) s')
    (hE : sld lt gt eq X Y = none → ∀ (hm : Heap) s' e, Kp (outer.filterMap (·.frame)) s.heap hm → Fly hm.get? (s.heap.objs.size :: outer.filterMap (·.frame)) e "TypeError" true .none s'.heap → s'.os = s.os → s'.gens = s.gens → R (.error (.ref e)) s') :
    codeAny (model prog w) A (.call (.ref f) ⟨[V1, V2], []⟩) R s := by
  refine callFn (binds := [("expected", V1), ("actual", V2)]) (fn.keep B.stays) (lim.keeps B.stays) hr (fun _ _ _ _ => rfl) (locs rfl) (fun s₁ F g => ?_) (by decide)
  have nL : s.heap.get? s.heap.objs.size = none := Heap.get?_none_of_le (Nat.le_refl _)
  have F' : Fr base s.heap.objs.size s₁.heap _ := ⟨F.ns, fun b o e => F.keep b o (B.stays b o e), hsz⟩
  refine sld_body (h₀ := s.heap) Z1 Z2 hq hlt hgt (by show A.units + 3 < 8000; omega) hh (Around.frames_deeper B.stack) B.frames B.stays nL hI F' (.of_keep g.keep) rfl rfl (fun s' t aM aU ms us n1 n2 kp os gens ht nt hM hU nM nU MU fi => ?_) fun e s' hT => ?_
  · exact hR s' t aM aU ms us n1 n2 kp (os.trans g.os) (gens.trans g.gens) ht nt hM hU nM nU MU fi
  · obtain ⟨hn, hm, m, Fm, kp, fl, FF, os, gens⟩ := hT
    refine leaving_ (L := s.heap.objs.size) (Around.frames_deeper B.stack) FF rfl fl fun h' fl' FF' => ?_
    exact hE hn hm _ e kp fl' (os.trans g.os) (gens.trans g.gens)
end

section
variable {prog : Program} {w : World} {A : Around} {E : Value → Shared → Prop} {s : Shared}

/-- xs.extend(ys), both lists, as a call -/
theorem extendCall {D b : Addr} {ms vs : List Value} {n k : Nat} {Q : Value → Shared → Prop} (hD : s.heap.get? D = some (listOf ms.toArray n)) (hb : s.heap.get? b = some (listOf vs.toArray k)) (hz : ms.length + vs.length ≤ 10000000)
    (h : ∀ s' n', ExL D s s' → s'.heap.get? D = some (listOf (ms ++ vs).toArray n') → Q .none s') : wpAny (model prog w) A (call (.builtin "list.extend") [.ref D, .ref b]) Q E s := by
  have hsz : ms.toArray.size + vs.toArray.size ≤ sizeLine := by rw [List.size_toArray, List.size_toArray, sizeLine_eq]; omega
  refine call_meets PySem.F.slot_list_extend ⟨_, hD, rfl⟩ PySem.F.entry_list_extend (PySem.F.args_list_extend_2 _ _) (AutoSeq1.list_extend_list_list_0 D ms.toArray n b vs.toArray k (extend_door hsz) (Nat.le_trans (Nat.le_add_right _ _) hsz) (Nat.le_trans hsz (Nat.le_succ _))) ⟨hD, hb, ?_⟩
  have e : ms.toArray ++ vs.toArray = (ms ++ vs).toArray := by simp
  refine h _ (if (ms.toArray ++ vs.toArray).size == ms.toArray.size then n else n + 1) ⟨fun c o nc q => ?_, rfl, rfl⟩ ?_
  · exact (Heap.get?_update_other _ _ (Ne.symm nc)).trans q
  · rw [Heap.get?_update_self _ hD (by rw [mapSeq_app]; rfl), mapSeq_app, e]
end

section
variable {prog : Program} {w : World} {α : Type} {S : List Addr} {h₀ : Heap} {Rep : Value → α → Prop} {X : List α} {vs : List Value}

/-- a list that stands -/
theorem sqList {l : Addr} {n : Nat} (hl : h₀.get? l = some (listOf vs.toArray n)) (hS : l ∉ S) (ha : All2 Rep vs X) (hz : X.length < 100000) : Sq prog w S h₀ Rep (.ref l) X where
  len := hz
  get := by
    intro A E s Q value x p i t kp hi h
    have hL : s.heap.IsList l vs.toArray := ⟨_, kp.keep _ _ hl hS, rfl, n, rfl⟩
    have hv : i < vs.length := by rw [ha.length]; exact hi
    refine tail_any hL.typeIs slot_list_getitem.lookup (wpAny_getItem_list (x := vs[i]) hL (by omega) (by omega) ?_ (h _ _ (.refl _) (ha.get i hv hi))) rfl
    simp [hv]
  out := by
    intro A E s S' Q value x p i t kp hd hi hb h
    have hL : s.heap.IsList l vs.toArray := ⟨_, kp.keep _ _ hl hS, rfl, n, rfl⟩
    refine tail_any hL.typeIs slot_list_getitem.lookup (getItem_list_out hd hL ?_ (by omega) h) rfl
    rw [List.size_toArray, ha.length]; omega
  cut := by
    intro A E s Q value lo p i t sl aM ms k kp hu hsl hi hM hms nM h
    have hL : s.heap.IsList l vs.toArray := ⟨_, kp.keep _ _ hl hS, rfl, n, rfl⟩
    have hv := ha.length
    refine tail_any hL.typeIs slot_list_getitem.lookup (wpAny_getItem_list_slice hL hsl (.int _ _) .none .none (by simp) ?_ (by rw [List.size_toArray, sizeLine_eq]; omega)) rfl
    have e : slicePick vs.toArray (some (i : Int)) none none = (vs.drop i).toArray := by rw [slicePick_from _ _ (by rw [List.size_toArray]; omega)]
    rw [e]
    refine extendCall (s := { s with heap := s.heap.push { cls := .type "list", data := .seq (vs.drop i).toArray } }) (Heap.get?_push_of_some _ hM) (Heap.get?_push_size _ rfl) (by rw [List.length_drop]; omega) fun s' n' g hM' => ?_
    refine h s' _ n' ?_ hM' (ha.drop i)
    exact ⟨fun c o nc q => g.keep c o nc (Heap.get?_push_of_some _ q), g.os, g.gens⟩
end

/-- ints -/
def RepI (v : Value) (x : Int) : Prop := ∃ t, v = .int x t
theorem intsAll {vs : List Value} {ns : List Int} (h : IntsAre vs ns) : All2 RepI vs ns := by
  induction h with
  | nil => exact .nil
  | cons _ _ _ ih => exact .cons ⟨_, rfl⟩ ih
theorem eqI {prog : Program} {w : World} {S : List Addr} {h₀ : Heap} : EqOk prog w S h₀ RepI (fun x y => x == y) := by
  rintro A E s Q v u x y _ _ ⟨t, rfl⟩ ⟨t', rfl⟩ h
  exact eq_int (h _ (.refl _))
theorem ltI {prog : Program} {w : World} {S : List Addr} {h₀ : Heap} : LtOk prog w S h₀ RepI (fun x y => some (decide (x < y))) := by
  rintro A E s Q v u x y _ _ _ ⟨t, rfl⟩ ⟨t', rfl⟩ h _
  exact lt_int (h _ rfl _ (.refl _))
theorem gtI {prog : Program} {w : World} {S : List Addr} {h₀ : Heap} : GtOk prog w S h₀ RepI (fun x y => some (decide (x < y))) (fun x y => decide (x > y)) := by
  rintro A E s Q v u x y _ _ _ ⟨t, rfl⟩ ⟨t', rfl⟩ _ h
  exact gt_int (h _ (.refl _))

abbrev No : Value → Shared → Prop := fun _ _ => False

/-- what stands at the places fp stands -/
def Stay (fp : List Addr) (h h' : Heap) : Prop := ∀ b ∈ fp, ∀ o, h.get? b = some o → h'.get? b = some o

/-- an iterator: its places, its items, its state -/
structure Iter (prog : Program) (w : World) (it : Addr) (fp : List Addr) (n : Nat) (V : Nat → Value → Prop) (P : Nat → Heap → Prop) : Prop where
  mem : it ∈ fp
  there : ∀ {k h}, P k h → h.get? it ≠ none
  keep : ∀ {k h h'}, P k h → Stay fp h h' → P k h'
  item : ∀ {A : Around} {E : Value → Shared → Prop} {s : Shared} {k : Nat} {Q : Option Value → Shared → Prop}, P k s.heap → k < n → (∀ v s', ExL it s s' → P (k + 1) s'.heap → V k v → Q (some v) s') → wpAny (model prog w) A (pyNext (.ref it)) Q E s
  fin : ∀ {A : Around} {E : Value → Shared → Prop} {s : Shared} {Q : Option Value → Shared → Prop}, A.handled = none → P n s.heap → (∀ s', ExL it s s' → Q none s') → wpAny (model prog w) A (pyNext (.ref it)) Q E s
  again : ∀ {A : Around} {E : Value → Shared → Prop} {s : Shared} {k : Nat} {Q : Value → Shared → Prop}, P k s.heap → Q (.ref it) s → wpAny (model prog w) A (pyIter (.ref it)) Q E s
  own : ∀ {s : Shared} {k : Nat} {M : Model} {A : Around} {E : Value → Shared → Prop} {x : Str} {p : Pos} {v : Value} {Q : Unit → Shared → Prop}, P k s.heap → Q () s → wpAny M A (letOwnedTupleGo (.Name x p) (.ref it) v) Q E s

section
variable {prog : Program} {w : World} {A : Around} {E : Value → Shared → Prop} {s : Shared}

theorem iterList {it l : Addr} {vs : List Value} (hil : it ≠ l) : Iter prog w it [it, l] vs.length (fun k v => vs[k]? = some v) (fun k h => h.IsListIter it l k ∧ h.IsList l vs.toArray) where
  mem := .head _
  there := by
    rintro k h ⟨⟨o, ho, r⟩, _⟩ q
    rw [ho] at q; cases q
  keep := by
    rintro k h h' ⟨⟨o, ho, r⟩, ⟨o', ho', r'⟩⟩ st
    exact ⟨⟨o, st it (.head _) o ho, r⟩, ⟨o', st l (.tail _ (.head _)) o' ho', r'⟩⟩
  item := by
    rintro A E s k Q ⟨hi, hl⟩ hk h
    have hx : vs.toArray[k]? = some vs[k] := by simp [hk]
    refine wpAny_pyNext_list_item hi hl hx fun h' hi' sb => h _ _ ⟨fun b o n e => (sb.2 b n).trans e, rfl, rfl⟩ ⟨hi', hl.extBut sb.extBut (Ne.symm hil)⟩ (by simp [hk])
  fin := by
    rintro A E s Q hh ⟨hi, hl⟩ h
    exact wpAny_pyNext_list_end hh hi hl (by simp) fun h' eb => h _ ⟨fun b o n e => eb b o n e, rfl, rfl⟩
  again := by
    rintro A E s k Q ⟨hi, _⟩ h
    exact wpAny_pyIter_listiter hi h
  own := by
    intro s k M A E x p v Q _ h
    exact wpAny_pure h

/-- iter(l) of a list -/
theorem pyIterList {l : Addr} {vs : List Value} {n : Nat} {Q : Value → Shared → Prop} (hl : s.heap.get? l = some (listOf vs.toArray n))
    (h : ∀ s' it, Grow s s' → s.heap.get? it = none → it ≠ l → (s'.heap.IsListIter it l 0 ∧ s'.heap.IsList l vs.toArray) → Q (.ref it) s') : wpAny (model prog w) A (pyIter (.ref l)) Q E s := by
  have hL : s.heap.IsList l vs.toArray := ⟨_, hl, rfl, n, rfl⟩
  exact wpAny_pyIter_list hL (h _ _ ⟨fun _ _ e => Heap.get?_push_of_some _ e, rfl, rfl⟩ (Heap.get?_none_of_le (Nat.le_refl _)) (Nat.ne_of_gt (Heap.lt_size hl)) ⟨⟨_, Heap.get?_push_size _ rfl, rfl, rfl⟩, hL.push _⟩)

/-- range(n) -/
theorem iterRange {it : Addr} {n : Nat} : Iter prog w it [it] n (fun k v => ∃ t, v = .int (k : Nat) t) (fun k h => IsRangeIter h it (k : Nat) ((n : Int) - (k : Nat)) 1) where
  mem := .head _
  there := by
    intro k h hi q
    rw [hi] at q; cases q
  keep := by
    intro k h h' hi st
    exact st it (.head _) _ hi
  item := by
    intro A E s k Q hi hk h
    refine wpAny_pyNext_range_item hi (by omega) fun h' hi' sb => h _ _ ⟨fun b o n e => (sb.2 b n).trans e, rfl, rfl⟩ ?_ ⟨_, rfl⟩
    have e : ((n : Int) - ((k + 1 : Nat) : Int)) = (n : Int) - (k : Nat) - 1 := by omega
    rw [e]; exact hi'
  fin := by
    intro A E s Q hh hi h
    exact wpAny_pyNext_range_end hh hi (by omega) fun h' eb => h _ ⟨fun b o n e => eb b o n e, rfl, rfl⟩
  again := by
    intro A E s k Q hi h
    have hT : s.TypeIs (.ref it) "range_iterator" := ⟨_, hi, rfl⟩
    refine wpAny_pyIter_slot hT PySem.F.slot_range_iterator_iter (wpAny_call_entry PySem.F.slot_range_iterator_iter hT PySem.F.entry_range_iterator_iter ?_ (PySem.F.args_range_iterator_iter_1 _))
    show wpAny _ _ (ret (.ref it)) _ _ s
    exact wpAny_pure ⟨_, rfl, "range_iterator", _, hT, PySem.F.slot_range_iterator_next.lookup, h⟩
  own := by
    intro s k M A E x p v Q _ h
    exact wpAny_pure h
end

section
variable {prog : Program} {w : World} {A : Around} {E : Value → Shared → Prop} {s : Shared}
/-- iter(range(n)) of a range that stands -/
theorem pyIterRange {r : Addr} {n : Nat} {t u v : Tok} {Q : Value → Shared → Prop} (hr : IsRange s.heap r 0 (n : Nat) 1 t u v) (hn : n < 1000000)
    (h : ∀ s' it, Grow s s' → s.heap.get? it = none → IsRangeIter s'.heap it ((0 : Nat) : Int) ((n : Int) - ((0 : Nat) : Int)) 1 → Q (.ref it) s') : wpAny (model prog w) A (pyIter (.ref r)) Q E s := by
  refine wpAny_pyIter_range hr (small_one (by decide) (by decide) (by omega) (by omega)) ?_
  rw [rangeSize_one]
  refine h _ _ ⟨fun _ _ e => Heap.get?_push_of_some _ e, rfl, rfl⟩ (Heap.get?_none_of_le (Nat.le_refl _)) ?_
  have e : (if (0 : Int) < (n : Int) then (n : Int) - 0 else 0) = (n : Int) - ((0 : Nat) : Int) := by split <;> omega
  rw [e]
  exact Heap.get?_push_size _ rfl
end

section
variable {prog : Program} {w : World} {A : Around} {s : Shared} {env : Env}

/-- a for over an iterator, by what holds after k items -/
theorem forIt {R : Result → Shared → Prop} {x : Str} {px : Pos} {body : List Stmt} {it : Addr} {fp : List Addr} {n : Nat} {V : Nat → Value → Prop} {P : Nat → Heap → Prop}
    (D : Iter prog w it fp n V P) (hh : A.handled = none) (p0 : P 0 s.heap) (I : Nat → Shared → Prop) (hI : ∀ k s₁ s₂, I k s₁ → ExL it s₁ s₂ → I k s₂) (h0 : I 0 s)
    (turn : ∀ k v s₁, k < n → V k v → P (k + 1) s₁.heap → I k s₁ → wpAny (model prog w) A (storeName env x v) (fun _ s₂ => wpAny (model prog w) A (execs body env)
      (fun f s₃ => (f = .next ∧ Stay fp s₁.heap s₃.heap ∧ I (k + 1) s₃) ∨ ∃ v, f = .ret v ∧ R (.ok (.ret v)) s₃) No s₂) No s₁)
    (hR : ∀ s', I n s' → R (.ok .next) s') : codeAny (model prog w) A (.forLoop (.Name x px) (.ref it) body [] env) R s := by
  refine codeAny_forLoop (fun c s₁ => ∃ k, k ≤ n ∧ c = n + 1 - k ∧ P k s₁.heap ∧ I k s₁) ?_ (n + 1) ⟨0, Nat.zero_le _, rfl, p0, h0⟩
  rintro c s₁ ⟨k, hk, rfl, hp, hi⟩
  rcases Nat.lt_or_eq_of_le hk with hk | rfl
  · refine D.item hp hk fun v s₂ g hp' hv => ?_
    refine wpAny_assign_Name (wpAny_mono (turn k v s₂ hk hv hp' (hI k s₁ s₂ hi g)) (fun _ s₃ h₃ => wpAny_mono h₃ (fun f s₄ h₄ => ?_) fun _ _ q => q.elim) fun _ _ q => q.elim)
    rcases h₄ with ⟨rfl, st, hi'⟩ | ⟨v, rfl, hr⟩
    · exact ⟨n + 1 - (k + 1), by omega, k + 1, by omega, rfl, D.keep hp' st, hi'⟩
    · exact hr
  · exact D.fin hh hp fun s₂ g => wpAny_execs_nil (hR s₂ (hI _ s₁ s₂ hi g))
end

/-- a comprehension's block -/
def compScope (scope : Scope) (env : Env) : Scope := { scope with names := scope.names.map fun (n, k) => if k == .free && env.scope.kind == .function && env.kindOf n == some .cell then (n, .cell) else (n, k) }
def compEnv (scope : Scope) (env : Env) (Lc : Addr) (cl : List (Str × Addr)) : Env :=
  { scope := compScope scope env, locals := Lc, globals := env.globals, cells := cl, qual := env.qual, func := none, code := env.code, frame := env.frame, builtins := env.builtins }

/-- what is done with a comprehension's list -/
def UseOk (prog : Program) (w : World) (A : Around) (E : Value → Shared → Prop) (use : Option (Value → Sem Unit)) (Q : Value → Shared → Prop) (Lc : Addr) (acc : Value) (s' : Shared) : Prop := match use with
  | none => ∀ s₂, ExL Lc s' s₂ → Q acc s₂
  | some u => wpAny (model prog w) A (u acc) (fun _ s₂ => (∃ m, s₂.heap.Ns Lc m) ∧ ∀ s₃, ExL Lc s₂ s₃ → Q .none s₃) E s'

section
variable {prog : Program} {w : World} {A : Around} {E : Value → Shared → Prop} {s : Shared} {env : Env}

theorem comprehension_ {e : Expr} {scope : Scope} {pos : Pos} {newAcc first : Sem Value} {g : Comprehension} {gs : List Comprehension} {cl : List (Str × Addr)} {use : Option (Value → Sem Unit)} {Q : Value → Shared → Prop}
    (hcl : clausesOf e = g :: gs) (hs : ∀ x, foldedSetIterable g.iter env x = pure x) (hclos : closureFor scope env = pure cl)
    (hcell : ∀ x ∈ scope.names, x.2 ≠ .cell) (hkind : scope.kind = .function)
    (hnames : ∀ x ∈ scope.names, x.2 = .local → (compScope scope env).names.lookup x.1 = some .local)
    (h : wpAny (model prog w) A first (fun x s₁ => wpAny (model prog w) A (pyIter x) (fun it s₂ => wpAny (model prog w) A newAcc (fun acc s₃ => ∀ s₄ Lc, Grow s₃ s₄ → s₃.heap.get? Lc = none → s₄.heap.Ns Lc (fun _ => none) →
        codeAny (model prog w) A (.compStart e 0 it acc (compEnv scope env Lc cl)) (fun r s' => (∃ f, r = .ok f) ∧ (∃ m, s'.heap.Ns Lc m) ∧ UseOk prog w A E use Q Lc acc s') s₄) E s₂) E s₁) E s) :
    wpAny (model prog w) A (comprehension e scope env pos newAcc false first use) Q E s := by
  unfold comprehension
  rw [hclos, hcl]
  refine wpAny_bind (wpAny_mono h (fun x s₁ h₁ => wpAny_bind (wpAny_standAt (wpAny_bind (wpAny_of_eq (hs x) (wpAny_bind (wpAny_holding (wpAny_mono h₁ (fun it s₂ h₂ =>
    wpAny_standIf (wpAny_bind (wpAny_mono h₂ (fun acc s₃ h₃ => wpAny_bind (wpAny_pure (wpAny_bind (wpAny_newFunctionEnv hcell (fun _ q => by cases q) (fun h' hns hsb => ?_) hkind)))) fun _ _ h' => h')))
      fun _ _ h' => h'))))))) fun _ _ h' => h')
  have h₄ := h₃ { s₃ with heap := h', toks := s₃.toks + ([] : List (Str × Value)).length } s₃.heap.objs.size ⟨fun b o e => hsb.extBut b o (Nat.ne_of_lt (Heap.lt_size e)) (Heap.get?_push_of_some _ e), rfl, rfl⟩ (Heap.get?_none_of_le (Nat.le_refl _)) hns
  have hv : ∀ x ∈ (scope.names.filter fun x => (x.2 == .local || x.2 == .cell) && x.1 != (".0" : Str)), x.2 = .local →
      Env.kindOf (compEnv scope env s₃.heap.objs.size cl) x.1 = some .local := fun x hx hl => hnames x (List.mem_filter.mp hx).1 hl
  dsimp only
  refine wpAny_holding (wpAny_bind (wpAny_attempt (wpAny_holding (wpAny_run (codeAny_mono h₄ fun r s' hr => ?_)))))
  obtain ⟨⟨f, rfl⟩, ⟨m, hn⟩, hr⟩ := hr
  cases use with
  | none =>
    exact wpAny_bind (wpAny_holding (wpAny_comp_letGo (cenv := compEnv scope env s₃.heap.objs.size cl) hkind _ s' m (fun x hx => hv x (List.mem_reverse.mp hx)) hn fun h' m' _ hs' => wpAny_pure (hr _ ⟨fun b o n q => (hs'.2 b n).trans q, rfl, rfl⟩)))
  | some u =>
    refine wpAny_bind (wpAny_rule (wpAny_bind (wpAny_holding (wpAny_mono hr (fun _ s'' hu => ?_) fun _ _ q => q))))
    obtain ⟨⟨m', hn'⟩, hu⟩ := hu
    refine wpAny_bind (wpAny_comp_letGo (cenv := compEnv scope env s₃.heap.objs.size cl) hkind _ s'' m' (fun x hx => hv x ?_) hn' fun h' m'' _ hs' => wpAny_pure (hu _ ⟨fun b o n q => (hs'.2 b n).trans q, rfl, rfl⟩))
    rcases List.mem_append.mp hx with hx | hx
    · exact List.mem_reverse.mp (List.mem_of_mem_drop hx)
    · exact List.mem_reverse.mp (List.mem_of_mem_take hx)
end

/-- the conditions of a clause -/
def conds (ifs : List Expr) (env : Env) : Sem Bool := forIn ifs true fun c ok => if ok = true then (do let b ← PySem.isTrue c env (eval c env); pure (ForInStep.yield b)) else pure (ForInStep.yield ok)

section
variable {prog : Program} {w : World} {A : Around} {E : Value → Shared → Prop} {s : Shared} {env : Env}

theorem conds_nil {Q : Bool → Shared → Prop} (h : Q true s) : wpAny (model prog w) A (conds [] env) Q E s := wpAny_pure h
theorem conds_one {c : Expr} {Q : Bool → Shared → Prop} (h : wpAny (model prog w) A (PySem.isTrue c env (eval c env)) Q E s) : wpAny (model prog w) A (conds [c] env) Q E s := by
  unfold conds
  rw [List.forIn_cons, if_pos rfl]
  exact wpAny_bind (wpAny_bind (wpAny_mono h (fun b s₁ h₁ => wpAny_pure (wpAny_pure h₁)) fun _ _ x => x))

theorem compLeaf {R : Result → Shared → Prop} {elt iter : Expr} {x : Str} {px : Pos} {ifs : List Expr} {gens : List Comprehension} {d : Nat} {scope : Scope} {pos : Pos} {acc : Value} {it : Addr} {fp : List Addr} {n : Nat} {V : Nat → Value → Prop} {P : Nat → Heap → Prop}
    (hg : gens[d]? = some ⟨.Name x px, iter, ifs, 0⟩) (hg' : gens[d + 1]? = none)
    (D : Iter prog w it fp n V P) (hh : A.handled = none) (p0 : P 0 s.heap) (I : Nat → Shared → Prop) (hI : ∀ k s₁ s₂, I k s₁ → ExL it s₁ s₂ → I k s₂) (h0 : I 0 s)
    (turn : ∀ k v s₁, k < n → V k v → P (k + 1) s₁.heap → I k s₁ → wpAny (model prog w) A (storeName env x v) (fun _ s₂ => wpAny (model prog w) A (conds ifs env) (fun ok s₃ =>
      if ok = true then wpAny (model prog w) A (eval elt env) (fun u s₄ => wpAny (model prog w) A (call (.builtin "list.append") [acc, u]) (fun _ s₅ => Stay fp s₁.heap s₅.heap ∧ I (k + 1) s₅) No s₄) No s₃
      else Stay fp s₁.heap s₃.heap ∧ I (k + 1) s₃) No s₂) No s₁)
    (hR : ∀ s', I n s' → R (.ok .next) s') : codeAny (model prog w) A (.compLoop (.ListComp elt gens scope pos) d (.ref it) acc env) R s := by
  refine codeAny_loop rfl (fun c s₁ => ∃ k, k ≤ n ∧ c = n + 1 - k ∧ P k s₁.heap ∧ I k s₁) ?_ (n + 1) ⟨0, Nat.zero_le _, rfl, p0, h0⟩
  rintro c s₁ ⟨k, hk, rfl, hp, hi⟩
  show wpAny _ _ ((compTurn (.ListComp elt gens scope pos) d (.ref it) acc env).onRaise (fun x => do noteFrame x env; theTreesLotGoes x)) _ _ s₁
  refine wpAny_noted ?_
  unfold compTurn
  dsimp only
  rw [hg]
  dsimp only
  refine wpAny_bind (wpAny_standAt ?_)
  rw [if_neg (by decide)]
  refine wpAny_bind ?_
  rcases Nat.lt_or_eq_of_le hk with hk | rfl
  · refine D.item hp hk fun v s₂ g hp' hv => ?_
    dsimp only
    refine wpAny_bind (D.own hp' (wpAny_bind (wpAny_assign_Name ?_)))
    refine wpAny_mono (turn k v s₂ hk hv hp' (hI k s₁ s₂ hi g)) (fun _ s₃ h₃ => ?_) fun _ _ q => q.elim
    refine wpAny_bind (wpAny_mono h₃ (fun ok s₄ h₄ => ?_) fun _ _ q => q.elim)
    rw [hg']
    cases ok with
    | true =>
      rw [if_pos rfl] at h₄ ⊢
      refine wpAny_bind (wpAny_bind (wpAny_mono h₄ (fun u s₅ h₅ => wpAny_bind (wpAny_mono h₅ (fun _ s₆ h₆ => wpAny_pure (wpAny_pure ⟨rfl, n + 1 - (k + 1), by omega, k + 1, by omega, rfl, D.keep hp' h₆.1, h₆.2⟩)) fun _ _ q => q.elim)) fun _ _ q => q.elim))
    | false =>
      rw [if_neg (by decide)] at h₄ ⊢
      exact wpAny_pure ⟨rfl, n + 1 - (k + 1), by omega, k + 1, by omega, rfl, D.keep hp' h₄.1, h₄.2⟩
  · exact D.fin hh hp fun s₂ g => wpAny_pure (hR s₂ (hI _ s₁ s₂ hi g))

theorem compInner {R : Result → Shared → Prop} {elt iter iter' t' : Expr} {x : Str} {px : Pos} {ifs ifs' : List Expr} {gens : List Comprehension} {d : Nat} {scope : Scope} {pos : Pos} {acc : Value} {it : Addr} {fp : List Addr} {n : Nat} {V : Nat → Value → Prop} {P : Nat → Heap → Prop}
    (hg : gens[d]? = some ⟨.Name x px, iter, ifs, 0⟩) (hg' : gens[d + 1]? = some ⟨t', iter', ifs', 0⟩) (hs : ∀ x, foldedSetIterable iter' env x = pure x)
    (D : Iter prog w it fp n V P) (hh : A.handled = none) (p0 : P 0 s.heap) (I : Nat → Shared → Prop) (hI : ∀ k s₁ s₂, I k s₁ → ExL it s₁ s₂ → I k s₂) (h0 : I 0 s)
    (turn : ∀ k v s₁, k < n → V k v → P (k + 1) s₁.heap → I k s₁ → wpAny (model prog w) A (storeName env x v) (fun _ s₂ => wpAny (model prog w) A (conds ifs env) (fun ok s₃ =>
      if ok = true then wpAny (model prog w) A (eval iter' env) (fun y s₄ => wpAny (model prog w) A (pyIter y) (fun it' s₅ =>
        codeAny (model prog w) A (.compStart (.ListComp elt gens scope pos) (d + 1) it' acc env) (fun r s₆ => (∃ f, r = .ok f) ∧ Stay fp s₁.heap s₆.heap ∧ I (k + 1) s₆) s₅) No s₄) No s₃
      else Stay fp s₁.heap s₃.heap ∧ I (k + 1) s₃) No s₂) No s₁)
    (hR : ∀ s', I n s' → R (.ok .next) s') : codeAny (model prog w) A (.compLoop (.ListComp elt gens scope pos) d (.ref it) acc env) R s := by
  refine codeAny_loop rfl (fun c s₁ => ∃ k, k ≤ n ∧ c = n + 1 - k ∧ P k s₁.heap ∧ I k s₁) ?_ (n + 1) ⟨0, Nat.zero_le _, rfl, p0, h0⟩
  rintro c s₁ ⟨k, hk, rfl, hp, hi⟩
  show wpAny _ _ ((compTurn (.ListComp elt gens scope pos) d (.ref it) acc env).onRaise (fun x => do noteFrame x env; theTreesLotGoes x)) _ _ s₁
  refine wpAny_noted ?_
  unfold compTurn
  dsimp only
  rw [hg]
  dsimp only
  refine wpAny_bind (wpAny_standAt ?_)
  rw [if_neg (by decide)]
  refine wpAny_bind ?_
  rcases Nat.lt_or_eq_of_le hk with hk | rfl
  · refine D.item hp hk fun v s₂ g hp' hv => ?_
    dsimp only
    refine wpAny_bind (D.own hp' (wpAny_bind (wpAny_assign_Name ?_)))
    refine wpAny_mono (turn k v s₂ hk hv hp' (hI k s₁ s₂ hi g)) (fun _ s₃ h₃ => ?_) fun _ _ q => q.elim
    refine wpAny_bind (wpAny_mono h₃ (fun ok s₄ h₄ => ?_) fun _ _ q => q.elim)
    rw [hg']
    cases ok with
    | true =>
      rw [if_pos rfl] at h₄ ⊢
      dsimp only
      refine wpAny_bind (wpAny_mono h₄ (fun y s₅ h₅ => ?_) fun _ _ q => q.elim)
      refine wpAny_bind (wpAny_standAt ?_)
      rw [if_neg (by decide), hs]
      refine wpAny_bind (wpAny_pure ?_)
      rw [if_neg (by decide)]
      refine wpAny_bind (wpAny_holding (wpAny_mono h₅ (fun it' s₆ h₆ => ?_) fun _ _ q => q.elim))
      refine wpAny_bind (wpAny_runOwn (codeAny_mono h₆ fun r s₇ h₇ => ?_))
      obtain ⟨⟨f, rfl⟩, st, hi'⟩ := h₇
      exact wpAny_pure ⟨rfl, n + 1 - (k + 1), by omega, k + 1, by omega, rfl, D.keep hp' st, hi'⟩
    | false =>
      rw [if_neg (by decide)] at h₄ ⊢
      exact wpAny_pure ⟨rfl, n + 1 - (k + 1), by omega, k + 1, by omega, rfl, D.keep hp' h₄.1, h₄.2⟩
  · exact D.fin hh hp fun s₂ g => wpAny_pure (hR s₂ (hI _ s₁ s₂ hi g))

theorem compStart_ {R : Result → Shared → Prop} {elt : Expr} {g : Comprehension} {gens : List Comprehension} {d : Nat} {scope : Scope} {pos : Pos} {acc : Value} {it : Addr} {fp : List Addr} {n k : Nat} {V : Nat → Value → Prop} {P : Nat → Heap → Prop}
    (hg : gens[d]? = some g) (ha : g.is_async = 0) (D : Iter prog w it fp n V P) (p0 : P k s.heap)
    (h : codeAny (model prog w) A (.compLoop (.ListComp elt gens scope pos) d (.ref it) acc env) R s) : codeAny (model prog w) A (.compStart (.ListComp elt gens scope pos) d (.ref it) acc env) R s := by
  refine codeAny_of_tree ?_
  show wpAny _ _ ((compStart (.ListComp elt gens scope pos) d (.ref it) acc env).onRaise (fun x => do noteFrame x env; standAt theWindowsPlace)) _ _ s
  refine wpAny_notedAt ?_
  unfold compStart
  have hc : clausesOf (.ListComp elt gens scope pos) = gens := rfl
  have e : (((clausesOf (.ListComp elt gens scope pos))[d]?).elim false fun x => x.is_async != 0) = false := by
    rw [hc, hg]; show (g.is_async != 0) = false; rw [ha]; rfl
  rw [e, if_neg (by decide)]
  refine wpAny_bind (wpAny_askSetting (wpAny_ite ?_))
  split
  · exact wpAny_pure (And.intro rfl h)
  · refine wpAny_bind (wpAny_rule ?_)
    rw [hc, hg]
    dsimp only
    refine wpAny_bind (wpAny_standAt (wpAny_bind (D.again p0 (wpAny_pure (And.intro rfl h)))))
end

section
variable {prog : Program} {w : World} {A : Around} {E : Value → Shared → Prop} {s : Shared} {env : Env} {m : Str → Option Value}

theorem ldE {x : Str} {v : Value} {pos : Pos} {Q : Value → Shared → Prop} (hn : s.heap.Ns env.locals m) (hv : m x = some v) (h : Q v s)
    (hk : env.scope.kind = .function := by rfl) (hl : env.kindOf x = some .local := by rfl) (hd : (x == ("__debug__" : Str)) = false := by decide) : wpAny (model prog w) A (eval (.Name x pos) env) Q E s :=
  wpAny_Name (wpAny_loadName_local hk hl hn hv h) hd
theorem stE {x : Str} {v : Value} {Q : Unit → Shared → Prop} (hn : s.heap.Ns env.locals m) (h : ∀ s', s'.heap.Ns env.locals (upd m x v) → ExL env.locals s s' → Q () s')
    (hk : env.scope.kind = .function := by rfl) (hl : env.kindOf x = some .local := by rfl) : wpAny (model prog w) A (storeName env x v) Q E s :=
  wpAny_storeName_local hl hn (fun _ hn' hs => h _ hn' ⟨fun b _ n e => (hs.2 b n).trans e, rfl, rfl⟩) (by rw [hk]; rfl)

/-- a captured name -/
theorem ldCell {x : Str} {v : Value} {pos : Pos} {a : Addr} {o : Obj} {Q : Value → Shared → Prop} (hc : env.cells.lookup x = some a) (ho : s.heap.get? a = some o) (hd' : o.data = .cell (some v)) (h : Q v s)
    (hk : env.scope.kind = .function := by rfl) (hl : env.kindOf x = some .cell := by rfl) (hd : (x == ("__debug__" : Str)) = false := by decide) : wpAny (model prog w) A (eval (.Name x pos) env) Q E s := by
  refine wpAny_Name ?_ hd
  have hb : env.blockKind = .function := by unfold Env.blockKind; rw [hk]; rfl
  have ha : env.scope.kind.isAnnotationScope = false := by rw [hk]; rfl
  unfold loadName
  rw [ha, hb, hl]
  simp only [Bool.false_and, Bool.false_eq_true, if_false]
  unfold cellOf
  rw [hc]
  refine wpAny_bind (wpAny_pure ?_)
  unfold cellGet
  refine wpAny_bind (wpAny_bind (wpAny_load ho ?_))
  rw [hd']
  exact wpAny_pure (wpAny_pure h)

theorem nameBE {x : Str} {v : Value} {pos : Pos} {base : Heap} {Q : Value → Shared → Prop} (hb : base.StaysIn s.heap) (B : Bn base x v) (h : Q v s) (eg : env.globals = mainGlobals := by rfl) (eb : env.builtins = builtinsNs := by rfl)
    (hk : env.scope.kind = .function := by rfl) (hx : env.kindOf x = some .globalImplicit := by rfl) (hd : (x == ("__debug__" : Str)) = false := by decide) : wpAny (model prog w) A (eval (.Name x pos) env) Q E s :=
  let ⟨_, _, g, n, b, v'⟩ := B
  Calls.Name_function_global hk hx (Calls.loadGlobal_builtin (env := env) (eg ▸ g.keeps hb) n (eb ▸ b.keeps hb) v' h) hd
end

/-- the place that a value names -/
def rf : Value → List Addr
  | .ref c => [c]
  | _ => []

section
variable {prog : Program} {w : World} {A : Around} {E : Value → Shared → Prop} {s : Shared} {env : Env} {α β : Type}

/-- where a comprehension's (or a loop's) items come from -/
structure Src (prog : Program) (w : World) (s s₂ : Shared) (RA : Value → α → Prop) (X : List α) (it : Addr) (fp : List Addr) (V : Nat → Value → Prop) (P : Nat → Heap → Prop) : Prop where
  D : Iter prog w it fp X.length V P
  p0 : P 0 s₂.heap
  g : Grow s s₂
  ni : s.heap.get? it = none
  ii : s₂.heap.get? it ≠ none
  fp : ∀ b ∈ fp, s₂.heap.get? b ≠ none
  ra : ∀ k v (hk : k < X.length), V k v → RA v X[k]

/-- the list that «[elt for x in .. if ..]» fills: the walk over its one clause -/
theorem compWalk {R : Result → Shared → Prop} {s₂ s₃ s₄ : Shared} {RA : Value → α → Prop} {RO : Value → β → Heap → Prop} {X : List α} {p : α → Bool} {f : α → β} {elt iter : Expr} {x : Str} {px : Pos} {ifs : List Expr} {gens : List Comprehension} {d : Nat} {scope : Scope} {pos : Pos} {it Lc Dl : Addr} {fp : List Addr} {V : Nat → Value → Prop} {P : Nat → Heap → Prop} {us₀ : List Value} {bs₀ : List β}
    (hg : gens[d]? = some ⟨.Name x px, iter, ifs, 0⟩) (hg' : gens[d + 1]? = none) (hh : A.handled = none)
    (mono : ∀ u b h h', RO u b h → (∀ c ∈ rf u, ∀ o, h.get? c = some o → h'.get? c = some o) → RO u b h')
    (S : Src prog w s s₂ RA X it fp V P) (g₄ : Grow s₂ s₄) (nD : s.heap.get? Dl = none) (nL : s.heap.get? Lc = none) (fD : Dl ∉ fp) (fL : Lc ∉ fp) (LD : Lc ≠ Dl) (eL : env.locals = Lc)
    (hns : ∃ m, s₄.heap.Ns Lc m) (hD : ∃ j, s₄.heap.get? Dl = some (listOf us₀.toArray j)) (a₀ : All2 (fun u b => RO u b s₄.heap) us₀ bs₀) (o₀ : ∀ u ∈ us₀, ∀ c ∈ rf u, s₄.heap.get? c ≠ none ∧ c ≠ it ∧ c ≠ Lc ∧ c ≠ Dl) (hz : us₀.length + X.length < 1000000)
    (hk : env.scope.kind = .function) (hl : env.kindOf x = some .local)
    (hcond : ∀ v a s₁ m, Grow s s₁ → RA v a → s₁.heap.Ns Lc m → m x = some v → wpAny (model prog w) A (conds ifs env) (fun ok s₂ => Grow s₁ s₂ ∧ ok = p a) No s₁)
    (helt : ∀ v a s₁ m, Grow s s₁ → RA v a → p a = true → s₁.heap.Ns Lc m → m x = some v → wpAny (model prog w) A (eval elt env) (fun u s₂ => Grow s₁ s₂ ∧ RO u (f a) s₂.heap ∧ ∀ c ∈ rf u, s₂.heap.get? c ≠ none ∧ (s₁.heap.get? c = none ∨ s.heap.get? c ≠ none)) No s₁)
    (hR : ∀ s' us j, (∀ b o, b ≠ it → b ≠ Lc → b ≠ Dl → s₄.heap.get? b = some o → s'.heap.get? b = some o) → s'.os = s₄.os → s'.gens = s₄.gens → (∃ m, s'.heap.Ns Lc m) → s'.heap.get? Dl = some (listOf us.toArray j) → All2 (fun u b => RO u b s'.heap) us (bs₀ ++ (X.filter p).map f) →
      (∀ u ∈ us, ∀ c ∈ rf u, s'.heap.get? c ≠ none ∧ c ≠ it ∧ c ≠ Lc ∧ c ≠ Dl) → us.length ≤ us₀.length + X.length → R (.ok .next) s') :
    codeAny (model prog w) A (.compLoop (.ListComp elt gens scope pos) d (.ref it) (.ref Dl) env) R s₄ := by
  subst eL
  have iD : it ≠ Dl := fun q => fD (q ▸ S.D.mem)
  have iL : it ≠ env.locals := fun q => fL (q ▸ S.D.mem)
  have gs₄ : Grow s s₄ := S.g.trans g₄
  have toAll : ∀ {h h' : Heap} {us : List Value} {bs : List β}, All2 (fun u b => RO u b h) us bs → (∀ u ∈ us, ∀ c ∈ rf u, ∀ o, h.get? c = some o → h'.get? c = some o) → All2 (fun u b => RO u b h') us bs := by
    intro h h' us bs ha
    induction ha with
    | nil => exact fun _ => .nil
    | cons r _ ih => exact fun hh => .cons (mono _ _ _ _ r (hh _ (.head _))) (ih fun u hu => hh u (.tail _ hu))
  have stay : ∀ {h h' : Heap} {c : Addr}, (∀ o, h.get? c = some o → h'.get? c = some o) → h.get? c ≠ none → h'.get? c ≠ none := by
    intro h h' c k n q
    cases e : h.get? c with
    | none => exact n e
    | some o => rw [k o e] at q; cases q
  -- the invariant
  refine compLeaf hg hg' S.D hh (S.D.keep S.p0 fun b _ o e => g₄.keep b o e)
    (fun k s₁ => (∀ b o, b ≠ it → b ≠ env.locals → b ≠ Dl → s₄.heap.get? b = some o → s₁.heap.get? b = some o) ∧ s₁.os = s₄.os ∧ s₁.gens = s₄.gens ∧ (∃ m, s₁.heap.Ns env.locals m) ∧
      ∃ us j, s₁.heap.get? Dl = some (listOf us.toArray j) ∧ All2 (fun u b => RO u b s₁.heap) us (bs₀ ++ ((X.take k).filter p).map f) ∧ (∀ u ∈ us, ∀ c ∈ rf u, s₁.heap.get? c ≠ none ∧ c ≠ it ∧ c ≠ env.locals ∧ c ≠ Dl) ∧ us.length ≤ us₀.length + k)
    ?_ ?_ ?_ ?_
  · -- the iterator turns
    rintro k s₁ s₂ ⟨h1, h2, h3, ⟨m, h4⟩, us, j, h5, h6, h7, h8⟩ g
    have kc : ∀ u ∈ us, ∀ c ∈ rf u, ∀ o, s₁.heap.get? c = some o → s₂.heap.get? c = some o := fun u hu c hc o e => g.keep c o (h7 u hu c hc).2.1 e
    refine ⟨fun b o n1 n2 n3 e => g.keep b o n1 (h1 b o n1 n2 n3 e), g.os.trans h2, g.gens.trans h3, ?_, us, j, g.keep _ _ (Ne.symm iD) h5, toAll h6 kc, fun u hu c hc => ⟨stay (kc u hu c hc) (h7 u hu c hc).1, (h7 u hu c hc).2⟩, h8⟩
    obtain ⟨o, es, ep, ho, r⟩ := h4
    exact ⟨m, o, es, ep, g.keep _ _ (Ne.symm iL) ho, r⟩
  · -- the start
    obtain ⟨j, hD⟩ := hD
    exact ⟨fun b o _ _ _ e => e, rfl, rfl, hns, us₀, j, hD, by simpa using a₀, o₀, by omega⟩
  · -- a turn
    rintro k v s₁ hkn hv hp ⟨h1, h2, h3, ⟨m, h4⟩, us, j, h5, h6, h7, h8⟩
    have ra := S.ra k v hkn hv
    have git := S.D.there hp
    refine stE h4 (fun s₂ hn₂ g₂ => ?_) hk hl
    have gs : ∀ {s' : Shared}, ExL env.locals s₁ s' → Grow s s' := fun {s'} g => by
      refine ⟨fun b o e => g.keep b o (fun q => by rw [q, nL] at e; cases e) (h1 b o (fun q => by rw [q, S.ni] at e; cases e) (fun q => by rw [q, nL] at e; cases e) (fun q => by rw [q, nD] at e; cases e) (gs₄.keep b o e)), ?_, ?_⟩
      · exact g.os.trans (h2.trans gs₄.os)
      · exact g.gens.trans (h3.trans gs₄.gens)
    have gs₂ := gs g₂
    refine wpAny_mono (hcond v X[k] s₂ _ gs₂ ra hn₂ upd_same) (fun ok s₃ h₃ => ?_) fun _ _ q => q
    obtain ⟨g₃, rfl⟩ := h₃
    have tk : X.take (k + 1) = X.take k ++ [X[k]] := by rw [List.take_succ_eq_append_getElem hkn]
    have e₁₃ : ExL env.locals s₁ s₃ := g₂.trans g₃.exL
    have kc : ∀ u ∈ us, ∀ c ∈ rf u, ∀ o, s₁.heap.get? c = some o → s₃.heap.get? c = some o := fun u hu c hc o e => e₁₃.keep c o (h7 u hu c hc).2.2.1 e
    cases hpk : p X[k] with
    | false =>
      rw [if_neg (by decide)]
      refine ⟨fun b hb o e => e₁₃.keep b o (fun q => fL (q ▸ hb)) e, fun b o n1 n2 n3 e => e₁₃.keep b o n2 (h1 b o n1 n2 n3 e), e₁₃.os.trans h2, e₁₃.gens.trans h3, ⟨_, hn₂.keeps g₃.keep⟩, us, j, e₁₃.keep _ _ (Ne.symm LD) h5, ?_, fun u hu c hc => ⟨stay (kc u hu c hc) (h7 u hu c hc).1, (h7 u hu c hc).2⟩, by omega⟩
      rw [tk, List.filter_append]
      have : [X[k]].filter p = [] := by simp [hpk]
      rw [this, List.append_nil]
      exact toAll h6 kc
    | true =>
      rw [if_pos rfl]
      refine wpAny_mono (helt v X[k] s₃ _ (gs₂.trans g₃) ra hpk (hn₂.keeps g₃.keep) upd_same) (fun u s₅ h₅ => ?_) fun _ _ q => q
      obtain ⟨g₅, ro, fr⟩ := h₅
      have e₁₅ : ExL env.locals s₁ s₅ := e₁₃.trans g₅.exL
      have h5' := e₁₅.keep _ _ (Ne.symm LD) h5
      refine append_at h5' (fun h' sb hD' => ?_) (by rw [List.size_toArray, sizeLine_eq]; omega)
      have k5 : ∀ b o, b ≠ Dl → s₅.heap.get? b = some o → h'.get? b = some o := fun b o n e => (sb.2 b n).trans e
      have ncu : ∀ c ∈ rf u, c ≠ it ∧ c ≠ env.locals ∧ c ≠ Dl := fun c hc => by
        rcases (fr c hc).2 with q | q
        · have nx : ∀ {d : Addr}, s₃.heap.get? d ≠ none → c ≠ d := fun n e => n (e ▸ q)
          refine ⟨nx (stay (fun o e => e₁₃.keep it o iL e) git), nx ?_, nx ?_⟩
          · obtain ⟨o, _, _, ho, _⟩ := hn₂.keeps g₃.keep
            rw [ho]; exact fun q => by cases q
          · rw [e₁₃.keep _ _ (Ne.symm LD) h5]; exact fun q => by cases q
        · refine ⟨fun e => q (e ▸ S.ni), fun e => q (e ▸ nL), fun e => q (e ▸ nD)⟩
      have e' : us.toArray.push u = (us ++ [u]).toArray := by simp
      rw [e'] at hD'
      refine ⟨fun b hb o e => k5 b o (fun q => fD (q ▸ hb)) (e₁₅.keep b o (fun q => fL (q ▸ hb)) e), fun b o n1 n2 n3 e => k5 b o n3 (e₁₅.keep b o n2 (h1 b o n1 n2 n3 e)), e₁₅.os.trans h2, e₁₅.gens.trans h3, ?_, us ++ [u], _, hD', ?_, ?_, ?_⟩
      · obtain ⟨o, es, ep, ho, r⟩ := hn₂.keeps (fun b o e => g₅.keep b o (g₃.keep b o e))
        exact ⟨_, o, es, ep, k5 _ _ LD ho, r⟩
      · rw [tk, List.filter_append, List.map_append, ← List.append_assoc]
        refine (toAll h6 fun u hu c hc o e => k5 c o (h7 u hu c hc).2.2.2 (e₁₅.keep c o (h7 u hu c hc).2.2.1 e)).append ?_
        have : [X[k]].filter p = [X[k]] := by simp [hpk]
        rw [this]
        exact .cons (mono _ _ _ _ ro fun c hc o e => k5 c o (ncu c hc).2.2 e) .nil
      · intro u' hu c hc
        rcases List.mem_append.mp hu with hu | hu
        · exact ⟨stay (fun o e => k5 c o (h7 u' hu c hc).2.2.2 (e₁₅.keep c o (h7 u' hu c hc).2.2.1 e)) (h7 u' hu c hc).1, (h7 u' hu c hc).2⟩
        · rw [List.mem_singleton.mp hu] at hc
          exact ⟨stay (fun o e => k5 c o (ncu c hc).2.2 e) (fr c hc).1, ncu c hc⟩
      · simp; omega
  · -- the end
    rintro s' ⟨h1, h2, h3, h4, us, j, h5, h6, h7, h8⟩
    rw [List.take_length] at h6
    exact hR s' us j h1 h2 h3 h4 h5 h6 h7 h8
end

section
variable {prog : Program} {w : World} {A : Around} {E : Value → Shared → Prop} {s : Shared} {env : Env} {α β : Type}

theorem namesOk {sc sc' : List (Str × NameKind)} (h : (sc.all fun y => y.2 != .local || sc'.lookup y.1 == some .local) = true) : ∀ y ∈ sc, y.2 = .local → sc'.lookup y.1 = some .local := fun y hy q => by
  have := List.all_eq_true.mp h y hy
  rw [q] at this
  simpa using this

/-- the walk of «[elt for x in .. if ..]» with what is done with its list -/
theorem listCompU {RA : Value → α → Prop} {RO : Value → β → Heap → Prop} {X : List α} {p : α → Bool} {f : α → β} {elt iter : Expr} {x : Str} {px : Pos} {ifs : List Expr} {scope : Scope} {pos ip : Pos} {cl : List (Str × Addr)} {use : Option (Value → Sem Unit)} {Q : Value → Shared → Prop}
    (hs : ∀ y, foldedSetIterable iter env y = pure y) (hclos : closureFor scope env = pure cl) (hcell : ∀ y ∈ scope.names, y.2 ≠ .cell) (hkind : scope.kind = .function)
    (hnames : ∀ y ∈ scope.names, y.2 = .local → (compScope scope env).names.lookup y.1 = some .local) (hx : (compScope scope env).names.lookup x = some .local)
    (hh : A.handled = none)
    (mono : ∀ u b h h', RO u b h → (∀ c ∈ rf u, ∀ o, h.get? c = some o → h'.get? c = some o) → RO u b h')
    (hsrc : wpAny (model prog w) A (eval iter env) (fun y s₁ => wpAny (model prog w) A (pyIter y) (fun itv s₂ => ∃ it fp V P, itv = .ref it ∧ Src prog w s s₂ RA X it fp V P) E s₁) E s) (hz : X.length < 1000000)
    (hcond : ∀ v a s₁ Lc m, Grow s s₁ → RA v a → s₁.heap.Ns Lc m → m x = some v → wpAny (model prog w) A (conds ifs (compEnv scope env Lc cl)) (fun ok s₂ => Grow s₁ s₂ ∧ ok = p a) No s₁)
    (helt : ∀ v a s₁ Lc m, Grow s s₁ → RA v a → p a = true → s₁.heap.Ns Lc m → m x = some v → wpAny (model prog w) A (eval elt (compEnv scope env Lc cl)) (fun u s₂ => Grow s₁ s₂ ∧ RO u (f a) s₂.heap ∧ ∀ c ∈ rf u, s₂.heap.get? c ≠ none ∧ (s₁.heap.get? c = none ∨ s.heap.get? c ≠ none)) No s₁)
    (hQ : ∀ s' Lc D us j, Grow s s' → s.heap.get? D = none → s.heap.get? Lc = none → Lc ≠ D → (∃ m, s'.heap.Ns Lc m) → s'.heap.get? D = some (listOf us.toArray j) → All2 (fun u b => RO u b s'.heap) us ((X.filter p).map f) → us.length ≤ X.length →
      (∀ u ∈ us, ∀ c ∈ rf u, s'.heap.get? c ≠ none ∧ c ≠ D ∧ c ≠ Lc) → UseOk prog w A E use Q Lc (.ref D) s') :
    wpAny (model prog w) A (comprehension (.ListComp elt [⟨.Name x px, iter, ifs, 0⟩] scope pos) scope env ip (newList []) false (eval iter env) use) Q E s := by
  refine comprehension_ (g := ⟨.Name x px, iter, ifs, 0⟩) (gs := []) rfl hs hclos hcell hkind hnames (wpAny_mono hsrc (fun y s₁ h₁ => wpAny_mono h₁ (fun itv s₂ h₂ => ?_) fun _ _ q => q) fun _ _ q => q)
  obtain ⟨it, fp, V, P, rfl, S⟩ := h₂
  refine newList_ fun s₃ D g₃ gD nD => ?_
  intro s₄ Lc g₄ nL hns
  have keepS : ∀ {a : Addr}, s₂.heap.get? a = none → s.heap.get? a = none := fun {a} q => by
    cases e : s.heap.get? a with
    | none => rfl
    | some o => rw [S.g.keep _ _ e] at q; cases q
  have nL₂ : s₂.heap.get? Lc = none := by
    cases e : s₂.heap.get? Lc with
    | none => rfl
    | some o => rw [g₃.keep _ _ e] at nL; cases nL
  have LD : Lc ≠ D := fun q => by rw [q, gD] at nL; cases nL
  have hg : ([⟨.Name x px, iter, ifs, 0⟩] : List Comprehension)[0]? = some ⟨.Name x px, iter, ifs, 0⟩ := rfl
  refine compStart_ hg rfl S.D (S.D.keep S.p0 fun b _ o e => g₄.keep b o (g₃.keep b o e)) ?_
  refine compWalk (s₂ := s₂) (s₃ := s₃) (us₀ := []) (bs₀ := []) (Lc := Lc) hg rfl hh mono S (g₃.trans g₄) (keepS nD) (keepS nL₂) (fun q => S.fp _ q nD) (fun q => S.fp _ q nL₂) LD rfl ⟨_, hns⟩ ⟨0, g₄.keep _ _ gD⟩ .nil (fun u hu => by cases hu) (by simpa using hz) hkind hx
    (fun v a s₁ m => hcond v a s₁ Lc m) (fun v a s₁ m => helt v a s₁ Lc m) fun s' us j k1 k2 k3 hm hD ha hf hl => ?_
  have gs : Grow s s' := ⟨fun b o e => k1 b o (fun q => by rw [q, S.ni] at e; cases e) (fun q => by rw [q, keepS nL₂] at e; cases e) (fun q => by rw [q, keepS nD] at e; cases e) (g₄.keep b o (g₃.keep b o (S.g.keep b o e))), k2.trans (g₄.os.trans (g₃.os.trans S.g.os)), k3.trans (g₄.gens.trans (g₃.gens.trans S.g.gens))⟩
  exact ⟨⟨_, rfl⟩, hm, hQ s' Lc D us j gs (keepS nD) (keepS nL₂) LD hm hD ha (by simpa using hl) fun u hu c hc => ⟨(hf u hu c hc).1, (hf u hu c hc).2.2.2, (hf u hu c hc).2.2.1⟩⟩

/-- «[elt for x in .. if ..]» as a value -/
theorem listComp1 {RA : Value → α → Prop} {RO : Value → β → Heap → Prop} {X : List α} {p : α → Bool} {f : α → β} {elt iter : Expr} {x : Str} {px : Pos} {ifs : List Expr} {scope : Scope} {pos : Pos} {cl : List (Str × Addr)} {Q : Value → Shared → Prop}
    (hh : A.handled = none)
    (mono : ∀ u b h h', RO u b h → (∀ c ∈ rf u, ∀ o, h.get? c = some o → h'.get? c = some o) → RO u b h')
    (hsrc : wpAny (model prog w) A (eval iter env) (fun y s₁ => wpAny (model prog w) A (pyIter y) (fun itv s₂ => ∃ it fp V P, itv = .ref it ∧ Src prog w s s₂ RA X it fp V P) E s₁) E s) (hz : X.length < 1000000)
    (hcond : ∀ v a s₁ Lc m, Grow s s₁ → RA v a → s₁.heap.Ns Lc m → m x = some v → wpAny (model prog w) A (conds ifs (compEnv scope env Lc cl)) (fun ok s₂ => Grow s₁ s₂ ∧ ok = p a) No s₁)
    (helt : ∀ v a s₁ Lc m, Grow s s₁ → RA v a → p a = true → s₁.heap.Ns Lc m → m x = some v → wpAny (model prog w) A (eval elt (compEnv scope env Lc cl)) (fun u s₂ => Grow s₁ s₂ ∧ RO u (f a) s₂.heap ∧ ∀ c ∈ rf u, s₂.heap.get? c ≠ none ∧ (s₁.heap.get? c = none ∨ s.heap.get? c ≠ none)) No s₁)
    (hQ : ∀ s' D us j, Grow s s' → s.heap.get? D = none → s'.heap.get? D = some (listOf us.toArray j) → All2 (fun u b => RO u b s'.heap) us ((X.filter p).map f) → us.length ≤ X.length → (∀ u ∈ us, ∀ c ∈ rf u, s'.heap.get? c ≠ none ∧ c ≠ D) → Q (.ref D) s')
    (hs : ∀ y, foldedSetIterable iter env y = pure y := by intro _; rfl) (hclos : closureFor scope env = pure cl := by rfl) (hcell : ∀ y ∈ scope.names, y.2 ≠ .cell := by decide) (hkind : scope.kind = .function := by rfl)
    (hnames : (scope.names.all fun y => y.2 != .local || (compScope scope env).names.lookup y.1 == some .local) = true := by rfl) (hx : (compScope scope env).names.lookup x = some .local := by rfl) :
    wpAny (model prog w) A (eval (.ListComp elt [⟨.Name x px, iter, ifs, 0⟩] scope pos) env) Q E s := by
  rw [eval_ListComp]
  refine listCompU (use := none) hs hclos hcell hkind (namesOk hnames) hx hh mono hsrc hz hcond helt fun s' Lc D us j g nD nL LD hm hD ha hl hf => ?_
  intro s'' e
  have kc : ∀ u ∈ us, ∀ c ∈ rf u, ∀ o, s'.heap.get? c = some o → s''.heap.get? c = some o := fun u hu c hc o q => e.keep c o (hf u hu c hc).2.2 q
  have toAll : ∀ {us : List Value} {bs : List β}, All2 (fun u b => RO u b s'.heap) us bs → (∀ u ∈ us, ∀ c ∈ rf u, ∀ o, s'.heap.get? c = some o → s''.heap.get? c = some o) → All2 (fun u b => RO u b s''.heap) us bs := by
    intro us bs ha
    induction ha with
    | nil => exact fun _ => .nil
    | cons r _ ih => exact fun hh => .cons (mono _ _ _ _ r (hh _ (.head _))) (ih fun u hu => hh u (.tail _ hu))
  refine hQ s'' D us j ⟨fun b o q => e.keep b o (fun q' => by rw [q', nL] at q; cases q) (g.keep b o q), e.os.trans g.os, e.gens.trans g.gens⟩ nD (e.keep _ _ (Ne.symm LD) hD) (toAll ha kc) hl fun u hu c hc => ⟨fun q => ?_, (hf u hu c hc).2.1⟩
  cases q' : s'.heap.get? c with
  | none => exact (hf u hu c hc).1 q'
  | some o => rw [kc u hu c hc o q'] at q; cases q

/-- the items of a list that stands -/
theorem srcList {RA : Value → α → Prop} {X : List α} {vs : List Value} {l : Addr} {n : Nat} {s₁ : Shared} (g : Grow s s₁) (hl : s₁.heap.get? l = some (listOf vs.toArray n)) (ha : All2 RA vs X) :
    wpAny (model prog w) A (pyIter (.ref l)) (fun itv s₂ => ∃ it fp V P, itv = .ref it ∧ Src prog w s s₂ RA X it fp V P) E s₁ := by
  refine pyIterList hl fun s₂ it g₂ ni nil st => ⟨it, [it, l], fun k v => vs[k]? = some v, fun k h => h.IsListIter it l k ∧ h.IsList l vs.toArray, rfl, ?_⟩
  have D := iterList (prog := prog) (w := w) (vs := vs) nil
  have e := ha.length
  refine ⟨by rw [← e]; exact D, st, g.trans g₂, ?_, D.there st, ?_, fun k v hk hv => ?_⟩
  · cases q : s.heap.get? it with
    | none => rfl
    | some o => rw [g.keep _ _ q] at ni; cases ni
  · intro b hb q
    rcases List.mem_cons.mp hb with rfl | hb
    · exact D.there st q
    · rw [List.mem_singleton.mp hb, g₂.keep _ _ hl] at q; cases q
  · have hk' : k < vs.length := by omega
    have : v = vs[k] := by rw [List.getElem?_eq_getElem hk'] at hv; exact (Option.some.inj hv).symm
    rw [this]
    exact ha.get k hk' hk

/-- the numbers below n -/
theorem srcRange {n : Nat} {r : Addr} {t u v : Tok} {s₁ : Shared} (g : Grow s s₁) (hr : IsRange s₁.heap r 0 (n : Nat) 1 t u v) (hn : n < 1000000) :
    wpAny (model prog w) A (pyIter (.ref r)) (fun itv s₂ => ∃ it fp V P, itv = .ref it ∧ Src prog w s s₂ (fun v (k : Nat) => ∃ t, v = .int (k : Nat) t) (List.range n) it fp V P) E s₁ := by
  refine pyIterRange hr hn fun s₂ it g₂ ni st => ⟨it, [it], fun k v => ∃ t, v = .int (k : Nat) t, fun k h => IsRangeIter h it (k : Nat) ((n : Int) - (k : Nat)) 1, rfl, ?_⟩
  have D := iterRange (prog := prog) (w := w) (it := it) (n := n)
  refine ⟨by rw [List.length_range]; exact D, st, g.trans g₂, ?_, D.there st, ?_, fun k v hk hv => ?_⟩
  · cases q : s.heap.get? it with
    | none => rfl
    | some o => rw [g.keep _ _ q] at ni; cases ni
  · intro b hb q
    rw [List.mem_singleton.mp hb] at q
    exact D.there st q
  · simpa using hv
end

/-- e is the int n at s -/
def EvI (prog : Program) (w : World) (A : Around) (env : Env) (e : Expr) (n : Int) (s : Shared) : Prop := wpAny (model prog w) A (eval e env) (fun v s' => Grow s s' ∧ ∃ t, v = .int n t) No s

section
variable {prog : Program} {w : World} {A : Around} {E : Value → Shared → Prop} {s : Shared} {env : Env} {e e1 e2 : Expr} {a b n : Int} {pos : Pos} {m : Str → Option Value}

theorem EvI.use {Q : Value → Shared → Prop} (h : EvI prog w A env e n s) (hQ : ∀ s' t, Grow s s' → Q (.int n t) s') : wpAny (model prog w) A (eval e env) Q E s :=
  wpAny_mono h (fun v s' ⟨g, t, q⟩ => by rw [q]; exact hQ s' t g) fun _ _ q => q.elim
theorem EvI.const {k : Nat} : EvI prog w A env (.Constant (.int n) k pos) n s := wpAny_Constant_int ⟨Grow.toks _ _, _, rfl⟩
theorem EvI.name {x : Str} {t : Tok} (hn : s.heap.Ns env.locals m) (hv : m x = some (.int n t))
    (hk : env.scope.kind = .function := by rfl) (hl : env.kindOf x = some .local := by rfl) (hd : (x == ("__debug__" : Str)) = false := by decide) : EvI prog w A env (.Name x pos) n s :=
  ldE hn hv ⟨.refl _, t, rfl⟩ hk hl hd
theorem EvI.neg (h : EvI prog w A env e n s) : EvI prog w A env (.UnaryOp .USub e pos) (-n) s :=
  wpAny_UnaryOp (h.use fun s' t g => PySem.P.neg_int ⟨g.trans (Grow.toks _ _), _, rfl⟩)
theorem EvI.sub (h1 : EvI prog w A env e1 a s) (h2 : ∀ s', Grow s s' → EvI prog w A env e2 b s') : EvI prog w A env (.BinOp e1 .Sub e2 pos) (a - b) s :=
  wpAny_BinOp (h1.use fun s₁ t g => (h2 s₁ g).use fun s₂ u g' => PySem.P.sub_int ⟨(g.trans g').trans (Grow.toks _ _), _, rfl⟩)
theorem EvI.add (h1 : EvI prog w A env e1 a s) (h2 : ∀ s', Grow s s' → EvI prog w A env e2 b s') : EvI prog w A env (.BinOp e1 .Add e2 pos) (a + b) s :=
  wpAny_BinOp (h1.use fun s₁ t g => (h2 s₁ g).use fun s₂ u g' => PySem.P.add_int ⟨(g.trans g').trans (Grow.toks _ _), _, rfl⟩)
theorem EvI.mod {k : Nat} {p : Pos} (h1 : EvI prog w A env e1 a s) (hb : b ≠ 0) : EvI prog w A env (.BinOp e1 .Mod (.Constant (.int b) k p) pos) (a.fmod b) s :=
  wpAny_BinOp (h1.use fun s₁ t g => (EvI.const (s := s₁)).use fun s₂ u g' => mod_int' hb ⟨(g.trans g').trans (Grow.toks _ _), _, rfl⟩)
theorem EvI.div {k : Nat} {p : Pos} (h1 : EvI prog w A env e1 a s) (hb : b ≠ 0) (hs : b.natAbs < 1073741824) : EvI prog w A env (.BinOp e1 .FloorDiv (.Constant (.int b) k p) pos) (a.fdiv b) s :=
  wpAny_BinOp (h1.use fun s₁ t g => (EvI.const (s := s₁)).use fun s₂ u g' => floordiv_int hb ⟨(g.trans g').trans (Grow.toks _ _), _, rfl⟩ (.inl (PyProof.noPylong_small hs)))
theorem EvI.max {x : Str} {p p1 : Pos} (hh : A.handled = none) (hb : wpAny (model prog w) A (eval (.Name x p) env) (fun v s' => v = .builtin "max" ∧ s' = s) No s)
    (h1 : EvI prog w A env e1 a s) (h2 : ∀ s', Grow s s' → EvI prog w A env e2 b s')
    (hc : eval (.Call (.Name x p) [e1, e2] [] p1) env = (do callWith p1 (← eval (.Name x p) env) [] (backTo p1 (starEach [e1, e2] env)) (backToKw p1 (keywordEach [] env))) := by rfl)
    (q1 : starEach [e1, e2] env = (false, eval e1 env) :: starEach [e2] env := by rfl) (q2 : starEach [e2] env = (false, eval e2 env) :: starEach [] env := by rfl) :
    EvI prog w A env (.Call (.Name x p) [e1, e2] [] p1) (if b > a then b else a) s := by
  refine Call_ (wpAny_mono hb (fun v s' ⟨q, q'⟩ => ?_) fun _ _ q => q) hc
  subst q q'
  refine callWith_builtin1 (spliced_more (h1.use fun s₁ t g => spliced_more ((h2 s₁ g).use fun s₂ u g' => spliced_none ?_) q2) q1) q1 (by rw [q2]; rfl)
  refine max_two_ints hh fun h' tk k => ?_
  have g2 : Grow s' { s₂ with heap := h', toks := tk } := ⟨fun c o e => k c o (g'.keep c o (g.keep c o e)), g'.os.trans g.os, g'.gens.trans g.gens⟩
  by_cases hc : b > a
  · rw [if_pos hc, if_pos hc]; exact ⟨g2, _, rfl⟩
  · rw [if_neg hc, if_neg hc]; exact ⟨g2, _, rfl⟩
end

theorem All2.mono {α β : Type} {R R' : α → β → Prop} {as : List α} {bs : List β} (h : All2 R as bs) (k : ∀ a b, a ∈ as → R a b → R' a b) : All2 R' as bs := by
  induction h with
  | nil => exact .nil
  | cons r _ ih => exact .cons (k _ _ (.head _) r) (ih fun a b ha => k a b (.tail _ ha))
theorem All2.snoc {α β : Type} {R : α → β → Prop} {as : List α} {bs : List β} {b : β} (h : All2 R as (bs ++ [b])) : ∃ as' a, as = as' ++ [a] ∧ All2 R as' bs ∧ R a b := by
  induction bs generalizing as with
  | nil =>
    cases h with
    | cons r q => cases q; exact ⟨[], _, rfl, .nil, r⟩
  | cons c bs ih =>
    cases h with
    | cons r q =>
      obtain ⟨as', a, rfl, h1, h2⟩ := ih q
      exact ⟨_ :: as', a, rfl, .cons r h1, h2⟩

theorem flat_sub {γ : Type} {X Y : List (List γ)} (h : X.Sublist Y) : X.flatten.length ≤ Y.flatten.length := by
  induction h with
  | slnil => exact Nat.le_refl _
  | cons a _ ih => simp only [List.flatten_cons, List.length_append]; omega
  | cons_cons a _ ih => simp only [List.flatten_cons, List.length_append]; omega
theorem flat_le {γ : Type} (X : List (List γ)) (p : List γ → Bool) (k : Nat) (hk : k < X.length) : ((X.take k).filter p).flatten.length + X[k].length ≤ X.flatten.length := by
  have e : (X.take k ++ [X[k]]).Sublist X := by
    rw [← List.take_succ_eq_append_getElem hk]; exact List.take_sublist _ _
  have e' : ((X.take k).filter p ++ [X[k]]).Sublist X := ((List.filter_sublist).append (List.Sublist.refl _)).trans e
  have := flat_sub e'
  simpa using this

section
variable {prog : Program} {w : World} {A : Around} {E : Value → Shared → Prop} {s : Shared} {env : Env} {γ : Type}

/-- rows: lists that stand in h -/
def RL (RB : Value → γ → Prop) (h : Heap) (v : Value) (a : List γ) : Prop := ∃ c vs n, v = .ref c ∧ h.get? c = some (listOf vs.toArray n) ∧ All2 RB vs a

/-- the walk of «[y for x in .. if .. for y in x]» -/
theorem listComp2U {RB : Value → γ → Prop} {X : List (List γ)} {p : List γ → Bool} {iter : Expr} {x y : Str} {px py q1 q2 : Pos} {ifs : List Expr} {scope : Scope} {pos ip : Pos} {cl : List (Str × Addr)} {use : Option (Value → Sem Unit)} {Q : Value → Shared → Prop}
    (hs : ∀ z, foldedSetIterable iter env z = pure z) (hs' : ∀ Lc z, foldedSetIterable (.Name x q2) (compEnv scope env Lc cl) z = pure z) (hclos : closureFor scope env = pure cl) (hcell : ∀ y ∈ scope.names, y.2 ≠ .cell) (hkind : scope.kind = .function)
    (hnames : ∀ y ∈ scope.names, y.2 = .local → (compScope scope env).names.lookup y.1 = some .local) (hx : (compScope scope env).names.lookup x = some .local) (hy : (compScope scope env).names.lookup y = some .local)
    (dx : (x == ("__debug__" : Str)) = false) (dy : (y == ("__debug__" : Str)) = false)
    (hh : A.handled = none) (plain : ∀ u b, RB u b → rf u = [])
    (hsrc : wpAny (model prog w) A (eval iter env) (fun y s₁ => wpAny (model prog w) A (pyIter y) (fun itv s₂ => ∃ it fp V P, itv = .ref it ∧ Src prog w s s₂ (RL RB s.heap) X it fp V P) E s₁) E s) (hz : X.flatten.length < 1000000)
    (hcond : ∀ v a s₁ Lc m, Grow s s₁ → RL RB s.heap v a → s₁.heap.Ns Lc m → m x = some v → wpAny (model prog w) A (conds ifs (compEnv scope env Lc cl)) (fun ok s₂ => Grow s₁ s₂ ∧ ok = p a) No s₁)
    (hQ : ∀ s' Lc D us j, Grow s s' → s.heap.get? D = none → s.heap.get? Lc = none → Lc ≠ D → (∃ m, s'.heap.Ns Lc m) → s'.heap.get? D = some (listOf us.toArray j) → All2 RB us (X.filter p).flatten → UseOk prog w A E use Q Lc (.ref D) s') :
    wpAny (model prog w) A (comprehension (.ListComp (.Name y q1) [⟨.Name x px, iter, ifs, 0⟩, ⟨.Name y py, .Name x q2, [], 0⟩] scope pos) scope env ip (newList []) false (eval iter env) use) Q E s := by
  refine comprehension_ (g := ⟨.Name x px, iter, ifs, 0⟩) (gs := [⟨.Name y py, .Name x q2, [], 0⟩]) rfl hs hclos hcell hkind hnames (wpAny_mono hsrc (fun yv s₁ h₁ => wpAny_mono h₁ (fun itv s₂ h₂ => ?_) fun _ _ q => q) fun _ _ q => q)
  obtain ⟨it, fp, V, P, rfl, S⟩ := h₂
  refine newList_ fun s₃ D g₃ gD nD => ?_
  intro s₄ Lc g₄ nL hns
  have keepS : ∀ {a : Addr}, s₂.heap.get? a = none → s.heap.get? a = none := fun {a} q => by
    cases e : s.heap.get? a with
    | none => rfl
    | some o => rw [S.g.keep _ _ e] at q; cases q
  have nL₂ : s₂.heap.get? Lc = none := by
    cases e : s₂.heap.get? Lc with
    | none => rfl
    | some o => rw [g₃.keep _ _ e] at nL; cases nL
  have LD : Lc ≠ D := fun q => by rw [q, gD] at nL; cases nL
  have nDs := keepS nD
  have nLs := keepS nL₂
  have fD : D ∉ fp := fun q => S.fp _ q nD
  have fL : Lc ∉ fp := fun q => S.fp _ q nL₂
  have iD : it ≠ D := fun q => fD (q ▸ S.D.mem)
  have iL : it ≠ Lc := fun q => fL (q ▸ S.D.mem)
  have hg : ([⟨.Name x px, iter, ifs, 0⟩, ⟨.Name y py, .Name x q2, [], 0⟩] : List Comprehension)[0]? = some ⟨.Name x px, iter, ifs, 0⟩ := rfl
  have hg1 : ([⟨.Name x px, iter, ifs, 0⟩, ⟨.Name y py, .Name x q2, [], 0⟩] : List Comprehension)[1]? = some ⟨.Name y py, .Name x q2, [], 0⟩ := rfl
  have gs₄ : Grow s s₄ := S.g.trans (g₃.trans g₄)
  have fp₄ : ∀ b ∈ fp, s₄.heap.get? b ≠ none := fun b hb q => by
    cases e : s₂.heap.get? b with
    | none => exact S.fp b hb e
    | some o => rw [g₄.keep _ _ (g₃.keep _ _ e)] at q; cases q
  refine compStart_ hg rfl S.D (S.D.keep S.p0 fun b _ o e => g₄.keep b o (g₃.keep b o e)) ?_
  refine compInner hg hg1 (hs' Lc) S.D hh (S.D.keep S.p0 fun b _ o e => g₄.keep b o (g₃.keep b o e))
    (fun k s₁ => (∀ b o, b ≠ it → b ≠ Lc → b ≠ D → s₄.heap.get? b = some o → s₁.heap.get? b = some o) ∧ s₁.os = s₄.os ∧ s₁.gens = s₄.gens ∧ (∃ m, s₁.heap.Ns Lc m) ∧
      ∃ us j, s₁.heap.get? D = some (listOf us.toArray j) ∧ All2 RB us ((X.take k).filter p).flatten) ?_ ?_ ?_ ?_
  · rintro k s₁ s₂ ⟨h1, h2, h3, ⟨m, o, es, ep, ho, r⟩, us, j, h5, h6⟩ g
    exact ⟨fun b o n1 n2 n3 e => g.keep b o n1 (h1 b o n1 n2 n3 e), g.os.trans h2, g.gens.trans h3, ⟨m, o, es, ep, g.keep _ _ (Ne.symm iL) ho, r⟩, us, j, g.keep _ _ (Ne.symm iD) h5, h6⟩
  · exact ⟨fun b o _ _ _ e => e, rfl, rfl, ⟨_, hns⟩, [], 0, g₄.keep _ _ gD, by simpa using All2.nil⟩
  · rintro k v s₁ hkn hv hp ⟨h1, h2, h3, ⟨m, h4⟩, us, j, h5, h6⟩
    have ra := S.ra k v hkn hv
    have git := S.D.there hp
    have tk : X.take (k + 1) = X.take k ++ [X[k]] := by rw [List.take_succ_eq_append_getElem hkn]
    refine stE (env := compEnv scope env Lc cl) h4 (fun s₂ hn₂ g₂ => ?_) hkind hx
    have g₂' : ExL Lc s₁ s₂ := g₂
    have gs₂ : Grow s s₂ := by
      refine ⟨fun b o e => g₂'.keep b o (fun q => by rw [q, nLs] at e; cases e) (h1 b o (fun q => by rw [q, S.ni] at e; cases e) (fun q => by rw [q, nLs] at e; cases e) (fun q => by rw [q, nDs] at e; cases e) (gs₄.keep b o e)), ?_, ?_⟩
      · exact g₂.os.trans (h2.trans gs₄.os)
      · exact g₂.gens.trans (h3.trans gs₄.gens)
    refine wpAny_mono (hcond v X[k] s₂ Lc _ gs₂ ra hn₂ upd_same) (fun ok s₃ h₃ => ?_) fun _ _ q => q
    obtain ⟨g₃', rfl⟩ := h₃
    have e₁₃ : ExL Lc s₁ s₃ := g₂'.trans g₃'.exL
    cases hpk : p X[k] with
    | false =>
      rw [if_neg (by decide)]
      refine ⟨fun b hb o e => e₁₃.keep b o (fun q => fL (q ▸ hb)) e, fun b o n1 n2 n3 e => e₁₃.keep b o n2 (h1 b o n1 n2 n3 e), e₁₃.os.trans h2, e₁₃.gens.trans h3, ⟨_, hn₂.keeps g₃'.keep⟩, us, j, e₁₃.keep _ _ (Ne.symm LD) h5, ?_⟩
      rw [tk, List.filter_append]
      have : [X[k]].filter p = [] := by simp [hpk]
      rw [this, List.append_nil]; exact h6
    | true =>
      rw [if_pos rfl]
      have hn₃ := hn₂.keeps g₃'.keep
      refine ldE (env := compEnv scope env Lc cl) hn₃ upd_same ?_ hkind hx dx
      obtain ⟨c, vs, n, rfl, hc, hav⟩ := ra
      have gs₃ := gs₂.trans g₃'
      have hc₃ := gs₃.keep _ _ hc
      refine pyIterList hc₃ fun s₅ it' g₅ ni' nil' st' => ?_
      have D' := iterList (prog := prog) (w := w) (vs := vs) nil'
      refine compStart_ hg1 rfl D' st' ?_
      have el := hav.length
      have lt := flat_le X p k hkn
      have h5' := g₅.keep _ _ (e₁₃.keep _ _ (Ne.symm LD) h5)
      have hcD : c ≠ D := fun q => by rw [q, nDs] at hc; cases hc
      have hcL : c ≠ Lc := fun q => by rw [q, nLs] at hc; cases hc
      have iD' : it' ≠ D := fun q => by rw [q, e₁₃.keep _ _ (Ne.symm LD) h5] at ni'; cases ni'
      have iL' : it' ≠ Lc := fun q => by
        obtain ⟨o, _, _, ho, _⟩ := hn₃
        rw [q] at ni'; rw [show s₃.heap.get? Lc = some o from ho] at ni'; cases ni'
      have ni : s.heap.get? it' = none := by
        cases q : s.heap.get? it' with
        | none => rfl
        | some o => rw [gs₃.keep _ _ q] at ni'; cases ni'
      have S' : Src prog w s s₅ RB X[k] it' [it', c] (fun k v => vs[k]? = some v) (fun k h => h.IsListIter it' c k ∧ h.IsList c vs.toArray) := by
        refine ⟨by rw [← el]; exact D', st', gs₃.trans g₅, ni, D'.there st', ?_, fun i u hi hu => ?_⟩
        · intro b hb q
          rcases List.mem_cons.mp hb with rfl | hb
          · exact D'.there st' q
          · rw [List.mem_singleton.mp hb, g₅.keep _ _ hc₃] at q; cases q
        · have hk' : i < vs.length := by omega
          have : u = vs[i] := by rw [List.getElem?_eq_getElem hk'] at hu; exact (Option.some.inj hu).symm
          rw [this]
          exact hav.get i hk' hi
      refine compWalk (s := s) (s₂ := s₅) (s₃ := s₅) (s₄ := s₅) (us₀ := us) (RO := fun u b _ => RB u b) (X := X[k]) (p := fun _ => true) (f := fun b => b) (Lc := Lc) hg1 rfl hh (fun _ _ _ _ r _ => r) S' (.refl _) nDs nLs ?_ ?_ LD rfl ⟨_, hn₃.keeps g₅.keep⟩ ⟨j, h5'⟩ h6 ?_ ?_ hkind hy ?_ ?_ ?_
      · intro q
        rcases List.mem_cons.mp q with q | q
        · exact iD' q.symm
        · exact hcD (List.mem_singleton.mp q).symm
      · intro q
        rcases List.mem_cons.mp q with q | q
        · exact iL' q.symm
        · exact hcL (List.mem_singleton.mp q).symm
      · intro u hu c hc
        have : ∀ {us : List Value} {bs : List γ}, All2 RB us bs → ∀ u ∈ us, rf u = [] := by
          intro us bs h
          induction h with
          | nil => intro u hu; cases hu
          | cons r _ ih =>
            intro u hu
            rcases List.mem_cons.mp hu with rfl | hu
            · exact plain _ _ r
            · exact ih u hu
        rw [this h6 u hu] at hc; cases hc
      · rw [h6.length]; omega
      · intro v a s₁ m' _ _ _ _
        exact conds_nil ⟨.refl _, rfl⟩
      · intro v a s₁ m' g' rv _ hn' hv'
        refine ldE (env := compEnv scope env Lc cl) hn' hv' ⟨.refl _, rv, fun c hc => ?_⟩ hkind hy dy
        rw [plain _ _ rv] at hc; cases hc
      · intro s' us' j' k1 k2 k3 hm hD ha _ _
        have g15 : ∀ b o, b ≠ Lc → s₁.heap.get? b = some o → s₅.heap.get? b = some o := fun b o n e => g₅.keep b o (e₁₃.keep b o n e)
        have ni1 : ∀ b o, b ≠ Lc → s₁.heap.get? b = some o → b ≠ it' := fun b o n e q => by
          have := e₁₃.keep b o n e
          rw [q, ni'] at this; cases this
        refine ⟨⟨_, rfl⟩, fun b hb o e => ?_, fun b o n1 n2 n3 e => ?_, k2.trans (g₅.os.trans (e₁₃.os.trans h2)), k3.trans (g₅.gens.trans (e₁₃.gens.trans h3)), hm, us', j', hD, ?_⟩
        · have nb : b ≠ Lc := fun q => fL (q ▸ hb)
          exact k1 b o (ni1 b o nb e) nb (fun q => fD (q ▸ hb)) (g15 b o nb e)
        · have e1 := h1 b o n1 n2 n3 e
          exact k1 b o (ni1 b o n2 e1) n2 n3 (g15 b o n2 e1)
        · rw [tk, List.filter_append, List.flatten_append]
          have q1 : [X[k]].filter p = [X[k]] := by simp [hpk]
          rw [q1]
          have q2 : (X[k].filter fun _ => true).map (fun b => b) = [X[k]].flatten := by simp
          rw [q2] at ha; exact ha
  · rintro s' ⟨h1, h2, h3, hm, us, j, h5, h6⟩
    rw [List.take_length] at h6
    have gs : Grow s s' := ⟨fun b o e => h1 b o (fun q => by rw [q, S.ni] at e; cases e) (fun q => by rw [q, nLs] at e; cases e) (fun q => by rw [q, nDs] at e; cases e) (gs₄.keep b o e), h2.trans gs₄.os, h3.trans gs₄.gens⟩
    exact ⟨⟨_, rfl⟩, hm, hQ s' Lc D us j gs nDs nLs LD hm h5 h6⟩

/-- «[y for x in .. if .. for y in x]» as a value -/
theorem listComp2 {RB : Value → γ → Prop} {X : List (List γ)} {p : List γ → Bool} {iter : Expr} {x y : Str} {px py q1 q2 : Pos} {ifs : List Expr} {scope : Scope} {pos : Pos} {cl : List (Str × Addr)} {Q : Value → Shared → Prop}
    (hh : A.handled = none) (plain : ∀ u b, RB u b → rf u = [])
    (hsrc : wpAny (model prog w) A (eval iter env) (fun y s₁ => wpAny (model prog w) A (pyIter y) (fun itv s₂ => ∃ it fp V P, itv = .ref it ∧ Src prog w s s₂ (RL RB s.heap) X it fp V P) E s₁) E s) (hz : X.flatten.length < 1000000)
    (hcond : ∀ v a s₁ Lc m, Grow s s₁ → RL RB s.heap v a → s₁.heap.Ns Lc m → m x = some v → wpAny (model prog w) A (conds ifs (compEnv scope env Lc cl)) (fun ok s₂ => Grow s₁ s₂ ∧ ok = p a) No s₁)
    (hQ : ∀ s' D us j, Grow s s' → s.heap.get? D = none → s'.heap.get? D = some (listOf us.toArray j) → All2 RB us (X.filter p).flatten → Q (.ref D) s')
    (hs : ∀ z, foldedSetIterable iter env z = pure z := by intro _; rfl) (hs' : ∀ Lc z, foldedSetIterable (.Name x q2) (compEnv scope env Lc cl) z = pure z := by intro _ _; rfl) (hclos : closureFor scope env = pure cl := by rfl) (hcell : ∀ y ∈ scope.names, y.2 ≠ .cell := by decide) (hkind : scope.kind = .function := by rfl)
    (hnames : (scope.names.all fun y => y.2 != .local || (compScope scope env).names.lookup y.1 == some .local) = true := by rfl) (hx : (compScope scope env).names.lookup x = some .local := by rfl) (hy : (compScope scope env).names.lookup y = some .local := by rfl)
    (dx : (x == ("__debug__" : Str)) = false := by decide) (dy : (y == ("__debug__" : Str)) = false := by decide) :
    wpAny (model prog w) A (eval (.ListComp (.Name y q1) [⟨.Name x px, iter, ifs, 0⟩, ⟨.Name y py, .Name x q2, [], 0⟩] scope pos) env) Q E s := by
  rw [eval_ListComp]
  refine listComp2U (use := none) hs hs' hclos hcell hkind (namesOk hnames) hx hy dx dy hh plain hsrc hz hcond fun s' Lc D us j g nD nL LD hm hD ha => ?_
  intro s'' e
  exact hQ s'' D us j ⟨fun b o q => e.keep b o (fun q' => by rw [q', nL] at q; cases q) (g.keep b o q), e.os.trans g.os, e.gens.trans g.gens⟩ nD (e.keep _ _ (Ne.symm LD) hD) ha
end

section
variable {prog : Program} {w : World} {A : Around} {E : Value → Shared → Prop} {s : Shared} {name : Str} {fscope : Scope} {L a : Addr} {cd : Value} {base : Heap} {m : Str → Option Value} {α β γ : Type}

/-- «y = [..]» -/
theorem assignU {y : Str} {py spos pos : Pos} {elt : Expr} {g : Comprehension} {gs : List Comprehension} {scope : Scope} {env : Env} {Q : Flow → Shared → Prop} (ga : g.is_async = 0)
    (h : ∀ ip, wpAny (model prog w) A (comprehension (.ListComp elt (g :: gs) scope pos) scope env ip (newList []) false (eval g.iter env) (some (assign (.Name y py) env))) (fun _ s' => Q .next s') E s)
    (hsw : swapsWith (.ListComp elt (g :: gs) scope pos) (some (.Name y py)) spos.line env = pure true := by rfl) :
    wpAny (model prog w) A (exec (.Assign [.Name y py] (.ListComp elt (g :: gs) scope pos) spos) env) Q E s := by
  rw [exec_Assign_Name_used _ _ _ _ hsw]
  refine wpAny_bind (wpAny_standAt (wpAny_bind ?_))
  obtain ⟨t, it, ifs, as⟩ := g
  obtain rfl : as = 0 := ga
  show wpAny _ A (do let _ ← comprehension (.ListComp elt (⟨t, it, ifs, 0⟩ :: gs) scope pos) scope env _ (newList []) false (eval it env) (some (assign (.Name y py) env))) _ _ s
  exact wpAny_bind (wpAny_mono (h _) (fun _ s' hq => wpAny_pure (wpAny_pure hq)) fun _ _ e => e)

theorem useAssign {y : Str} {py : Pos} {Lc D : Addr} {s' : Shared} {Q : Value → Shared → Prop} (F : Fr base L s.heap m) (g : Grow s s') (nL : s.heap.get? Lc = none) (hm : ∃ m, s'.heap.Ns Lc m)
    (h : ∀ s₃, Fr base L s₃.heap (upd m y (.ref D)) → ExL L s s₃ → (∀ b o, b ≠ L → b ≠ Lc → s'.heap.get? b = some o → s₃.heap.get? b = some o) → Q .none s₃)
    (hk : fscope.kind = .function) (hl : (envOf name fscope L a cd).kindOf y = some .local) : UseOk prog w A E (some (assign (.Name y py) (envOf name fscope L a cd))) Q Lc (.ref D) s' := by
  have LL : Lc ≠ L := fun q => by
    obtain ⟨o, _, _, e, _⟩ := F.ns
    rw [← q, nL] at e; cases e
  have bL : base.get? Lc = none := by
    cases q : base.get? Lc with
    | none => rfl
    | some o => rw [F.keep _ _ q] at nL; cases nL
  show wpAny _ A (assign (.Name y py) (envOf name fscope L a cd) (.ref D)) _ _ _
  refine wpAny_assign_Name (st_ (frGrow F g) (fun s₂ F₂ g₂ => ⟨?_, fun s₃ g₃ => h s₃ (frExL F₂ g₃ (Ne.symm LL) bL) ?_ fun b o n1 n2 e => g₃.keep b o n2 (g₂.keep b o n1 e)⟩) hk hl)
  · obtain ⟨m', o, es, ep, ho, r⟩ := hm
    exact ⟨m', o, es, ep, g₂.keep _ _ LL ho, r⟩
  · exact ⟨fun b o n e => g₃.keep b o (fun q => by rw [q, nL] at e; cases e) (g₂.keep b o n (g.keep b o e)), g₃.os.trans (g₂.os.trans g.os), g₃.gens.trans (g₂.gens.trans g.gens)⟩

theorem assignComp2 {RB : Value → γ → Prop} {X : List (List γ)} {p : List γ → Bool} {iter : Expr} {x y z : Str} {px py pz spos q1 q2 : Pos} {ifs : List Expr} {scope : Scope} {pos : Pos} {cl : List (Str × Addr)} {Q : Flow → Shared → Prop} (F : Fr base L s.heap m)
    (hh : A.handled = none) (plain : ∀ u b, RB u b → rf u = [])
    (hsrc : wpAny (model prog w) A (eval iter (envOf name fscope L a cd)) (fun y s₁ => wpAny (model prog w) A (pyIter y) (fun itv s₂ => ∃ it fp V P, itv = .ref it ∧ Src prog w s s₂ (RL RB s.heap) X it fp V P) E s₁) E s) (hz : X.flatten.length < 1000000)
    (hcond : ∀ v a' s₁ Lc m', Grow s s₁ → RL RB s.heap v a' → s₁.heap.Ns Lc m' → m' x = some v → wpAny (model prog w) A (conds ifs (compEnv scope (envOf name fscope L a cd) Lc cl)) (fun ok s₂ => Grow s₁ s₂ ∧ ok = p a') No s₁)
    (hQ : ∀ s' D us j, Fr base L s'.heap (upd m z (.ref D)) → ExL L s s' → s.heap.get? D = none → s'.heap.get? D = some (listOf us.toArray j) → All2 RB us (X.filter p).flatten → Q .next s')
    (hsw : swapsWith (.ListComp (.Name y q1) [⟨.Name x px, iter, ifs, 0⟩, ⟨.Name y py, .Name x q2, [], 0⟩] scope pos) (some (.Name z pz)) spos.line (envOf name fscope L a cd) = pure true := by rfl)
    (hk : fscope.kind = .function := by rfl) (hl : (envOf name fscope L a cd).kindOf z = some .local := by rfl)
    (hs : ∀ z, foldedSetIterable iter (envOf name fscope L a cd) z = pure z := by intro _; rfl) (hs' : ∀ Lc z, foldedSetIterable (.Name x q2) (compEnv scope (envOf name fscope L a cd) Lc cl) z = pure z := by intro _ _; rfl) (hclos : closureFor scope (envOf name fscope L a cd) = pure cl := by rfl) (hcell : ∀ y ∈ scope.names, y.2 ≠ .cell := by decide) (hkind : scope.kind = .function := by rfl)
    (hnames : (scope.names.all fun y => y.2 != .local || (compScope scope (envOf name fscope L a cd)).names.lookup y.1 == some .local) = true := by rfl) (hx : (compScope scope (envOf name fscope L a cd)).names.lookup x = some .local := by rfl) (hy : (compScope scope (envOf name fscope L a cd)).names.lookup y = some .local := by rfl)
    (dx : (x == ("__debug__" : Str)) = false := by decide) (dy : (y == ("__debug__" : Str)) = false := by decide) :
    wpAny (model prog w) A (exec (.Assign [.Name z pz] (.ListComp (.Name y q1) [⟨.Name x px, iter, ifs, 0⟩, ⟨.Name y py, .Name x q2, [], 0⟩] scope pos) spos) (envOf name fscope L a cd)) Q E s := by
  refine assignU rfl (fun ip => ?_) hsw
  refine listComp2U hs hs' hclos hcell hkind (namesOk hnames) hx hy dx dy hh plain hsrc hz hcond fun s' Lc D us j g nD nL LD hm hD ha => ?_
  have DL : D ≠ L := fun q => by
    obtain ⟨o, _, _, e, _⟩ := F.ns
    rw [← q, nD] at e; cases e
  exact useAssign F g nL hm (fun s₃ F₃ g₃ k₃ => hQ s₃ D us j F₃ g₃ nD (k₃ _ _ DL (Ne.symm LD) hD) ha) hk hl

theorem assignComp1 {RA : Value → α → Prop} {RO : Value → β → Heap → Prop} {X : List α} {p : α → Bool} {f : α → β} {elt iter : Expr} {x z : Str} {px pz spos : Pos} {ifs : List Expr} {scope : Scope} {pos : Pos} {cl : List (Str × Addr)} {Q : Flow → Shared → Prop} (F : Fr base L s.heap m)
    (hh : A.handled = none)
    (mono : ∀ u b h h', RO u b h → (∀ c ∈ rf u, ∀ o, h.get? c = some o → h'.get? c = some o) → RO u b h') (nodict : ∀ u b h, RO u b h → ∀ c ∈ rf u, ∀ o es n, h.get? c = some o → o.data ≠ .dict es n)
    (hsrc : wpAny (model prog w) A (eval iter (envOf name fscope L a cd)) (fun y s₁ => wpAny (model prog w) A (pyIter y) (fun itv s₂ => ∃ it fp V P, itv = .ref it ∧ Src prog w s s₂ RA X it fp V P) E s₁) E s) (hz : X.length < 1000000)
    (hcond : ∀ v a' s₁ Lc m', Grow s s₁ → RA v a' → s₁.heap.Ns Lc m' → m' x = some v → wpAny (model prog w) A (conds ifs (compEnv scope (envOf name fscope L a cd) Lc cl)) (fun ok s₂ => Grow s₁ s₂ ∧ ok = p a') No s₁)
    (helt : ∀ v a' s₁ Lc m', Grow s s₁ → RA v a' → p a' = true → s₁.heap.Ns Lc m' → m' x = some v → wpAny (model prog w) A (eval elt (compEnv scope (envOf name fscope L a cd) Lc cl)) (fun u s₂ => Grow s₁ s₂ ∧ RO u (f a') s₂.heap ∧ ∀ c ∈ rf u, s₂.heap.get? c ≠ none ∧ (s₁.heap.get? c = none ∨ s.heap.get? c ≠ none)) No s₁)
    (hQ : ∀ s' D us j, Fr base L s'.heap (upd m z (.ref D)) → ExL L s s' → s.heap.get? D = none → s'.heap.get? D = some (listOf us.toArray j) → All2 (fun u b => RO u b s'.heap) us ((X.filter p).map f) → us.length ≤ X.length → (∀ u ∈ us, ∀ c ∈ rf u, s'.heap.get? c ≠ none ∧ c ≠ D ∧ c ≠ L) → Q .next s')
    (hsw : swapsWith (.ListComp elt [⟨.Name x px, iter, ifs, 0⟩] scope pos) (some (.Name z pz)) spos.line (envOf name fscope L a cd) = pure true := by rfl)
    (hk : fscope.kind = .function := by rfl) (hl : (envOf name fscope L a cd).kindOf z = some .local := by rfl)
    (hs : ∀ y, foldedSetIterable iter (envOf name fscope L a cd) y = pure y := by intro _; rfl) (hclos : closureFor scope (envOf name fscope L a cd) = pure cl := by rfl) (hcell : ∀ y ∈ scope.names, y.2 ≠ .cell := by decide) (hkind : scope.kind = .function := by rfl)
    (hnames : (scope.names.all fun y => y.2 != .local || (compScope scope (envOf name fscope L a cd)).names.lookup y.1 == some .local) = true := by rfl) (hx : (compScope scope (envOf name fscope L a cd)).names.lookup x = some .local := by rfl) :
    wpAny (model prog w) A (exec (.Assign [.Name z pz] (.ListComp elt [⟨.Name x px, iter, ifs, 0⟩] scope pos) spos) (envOf name fscope L a cd)) Q E s := by
  refine assignU rfl (fun ip => ?_) hsw
  refine listCompU hs hclos hcell hkind (namesOk hnames) hx hh mono hsrc hz hcond helt fun s' Lc D us j g nD nL LD hm hD ha hl' hf => ?_
  have DL : D ≠ L := fun q => by
    obtain ⟨o, _, _, e, _⟩ := F.ns
    rw [← q, nD] at e; cases e
  have nl : ∀ {us : List Value} {bs : List β}, All2 (fun u b => RO u b s'.heap) us bs → ∀ u ∈ us, ∀ c ∈ rf u, c ≠ L := by
    intro us bs h
    induction h with
    | nil => intro u hu; cases hu
    | cons r _ ih =>
      intro u hu c hc
      rcases List.mem_cons.mp hu with rfl | hu
      · intro q
        obtain ⟨es, n, o, ho, hd⟩ := frDict (frGrow F g)
        exact nodict _ _ _ r c hc o es n (by rw [q]; exact ho) hd
      · exact ih u hu c hc
  refine useAssign F g nL hm (fun s₃ F₃ g₃ k₃ => hQ s₃ D us j F₃ g₃ nD (k₃ _ _ DL (Ne.symm LD) hD) (ha.mono fun u b hu r => mono _ _ _ _ r fun c hc o e => k₃ c o (nl ha u hu c hc) (hf u hu c hc).2.2 e) hl' fun u hu c hc => ⟨fun q => ?_, (hf u hu c hc).2.1, nl ha u hu c hc⟩) hk hl
  cases q' : s'.heap.get? c with
  | none => exact (hf u hu c hc).1 q'
  | some o => rw [k₃ c o (nl ha u hu c hc) (hf u hu c hc).2.2 q'] at q; cases q
end
open PySem PySem.W PyProof.Rows PySem.Calls PySem.SeqAt

/-- equality item by item -/
def eqList {α β : Type} (eq : α → β → Bool) : List α → List β → Bool
  | [], [] => true
  | x :: xs, y :: ys => eq x y && eqList eq xs ys
  | _, _ => false
theorem eqList_iff {α : Type} {eq : α → α → Bool} (h : ∀ x y, eq x y = true ↔ x = y) : ∀ xs ys, eqList eq xs ys = true ↔ xs = ys
  | [], [] => by simp [eqList]
  | x :: xs, y :: ys => by simp [eqList, h, eqList_iff h xs ys]
  | [], _ :: _ => by simp [eqList]
  | _ :: _, [] => by simp [eqList]
theorem eqList_all {α β : Type} {eq : α → β → Bool} : ∀ (xs : List α) (ys : List β), eqList eq xs ys = true ↔ All2 (fun x y => eq x y = true) xs ys
  | [], [] => by simp [eqList]; exact .nil
  | x :: xs, y :: ys => by
    simp only [eqList, Bool.and_eq_true, eqList_all xs ys]
    exact ⟨fun h => .cons h.1 h.2, fun h => by cases h with | cons a b => exact ⟨a, b⟩⟩
  | [], _ :: _ => by simp [eqList]; intro h; cases h
  | _ :: _, [] => by simp [eqList]; intro h; cases h
theorem eqList_len {α β : Type} {eq : α → β → Bool} : ∀ (xs : List α) (ys : List β), xs.length ≠ ys.length → eqList eq xs ys = false
  | [], [], h => absurd rfl h
  | x :: xs, y :: ys, h => by simp only [eqList, eqList_len xs ys (fun q => h (by simp [q])), Bool.and_false]
  | [], _ :: _, _ => rfl
  | _ :: _, [], _ => rfl
theorem eqList_range {α β : Type} {eq : α → β → Bool} : ∀ (xs : List α) (ys : List β) (e : Nat → Bool), xs.length = ys.length → (∀ j (h1 : j < xs.length) (h2 : j < ys.length), e j = eq xs[j] ys[j]) → (List.range xs.length).all e = eqList eq xs ys
  | [], [], _, _, _ => rfl
  | x :: xs, y :: ys, e, h, he => by
    rw [List.length_cons, List.range_succ_eq_map, List.all_cons, List.all_map, eqList, he 0 (by simp) (by simp)]
    congr 1
    exact eqList_range xs ys _ (by simpa using h) fun j h1 h2 => he (j + 1) (by simpa using h1) (by simpa using h2)
  | [], _ :: _, _, h, _ => by simp at h
  | _ :: _, [], _, h, _ => by simp at h

section
variable {α β : Type} {A : Around} {s : Shared} {l b : Addr} {us vs : List Value} {n k : Nat} {R : Value → α → Prop} {R' : Value → β → Prop} {X : List α} {Y : List β} {eq : α → β → Bool}

theorem isL (hl : s.heap.get? l = some (listOf us.toArray n)) : s.heap.IsList l us.toArray := ⟨_, hl, rfl, n, rfl⟩

theorem rcList (hl : s.heap.get? l = some (listOf us.toArray n)) (hb : s.heap.get? b = some (listOf vs.toArray k)) (hu : A.units < cLine) (ha : All2 R us X) (ha' : All2 R' vs Y) (he : ∀ u x v y, R u x → R' v y → EqAt A.in1 s u v (eq x y)) :
    RcAt A s (.ref l) (.ref b) (eqList eq X Y) := by
  by_cases hz : us.length = vs.length
  · have e1 := ha.length
    have e2 := ha'.length
    have := RcAt.lists (e := fun j => if h : j < X.length then (if h' : j < Y.length then eq X[j] Y[j] else false) else false) (isL hl) (isL hb) (by simpa using hz) hu fun j h1 h2 => by
      have h1' : j < us.length := by simpa using h1
      have h2' : j < vs.length := by simpa using h2
      have h3 : j < X.length := by omega
      have h4 : j < Y.length := by omega
      rw [dif_pos h3, dif_pos h4]
      simpa using he _ _ _ _ (ha.get j h1' h3) (ha'.get j h2' h4)
    rw [List.size_toArray, e1, eqList_range (eq := eq) X Y _ (by omega) fun j h1 h2 => by rw [dif_pos h1, dif_pos h2]] at this
    exact this
  · rw [eqList_len X Y (by rw [← ha.length, ← ha'.length]; exact hz)]
    exact RcAt.lists_lengths (isL hl) (isL hb) (by simpa using hz) hu

theorem neList (hl : s.heap.get? l = some (listOf us.toArray n)) (hb : s.heap.get? b = some (listOf vs.toArray k)) (hu : A.units < cLine) (ha : All2 R us X) (ha' : All2 R' vs Y) (he : ∀ u x v y, R u x → R' v y → EqAt A.in1 s u v (eq x y)) :
    RcNeAt A s (.ref l) (.ref b) (!eqList eq X Y) := by
  by_cases hz : us.length = vs.length
  · have e1 := ha.length
    have e2 := ha'.length
    have := RcNeAt.lists (e := fun j => if h : j < X.length then (if h' : j < Y.length then eq X[j] Y[j] else false) else false) (isL hl) (isL hb) (by simpa using hz) hu fun j h1 h2 => by
      have h1' : j < us.length := by simpa using h1
      have h2' : j < vs.length := by simpa using h2
      have h3 : j < X.length := by omega
      have h4 : j < Y.length := by omega
      rw [dif_pos h3, dif_pos h4]
      simpa using he _ _ _ _ (ha.get j h1' h3) (ha'.get j h2' h4)
    rw [List.size_toArray, e1, eqList_range (eq := eq) X Y _ (by omega) fun j h1 h2 => by rw [dif_pos h1, dif_pos h2]] at this
    exact this
  · rw [eqList_len X Y (by rw [← ha.length, ← ha'.length]; exact hz)]
    exact RcNeAt.lists_lengths (isL hl) (isL hb) (by simpa using hz) hu

theorem eqAtList (hl : s.heap.get? l = some (listOf us.toArray n)) (hb : s.heap.get? b = some (listOf vs.toArray k)) (hne : l ≠ b) (hu : A.units < cLine) (ha : All2 R us X) (ha' : All2 R' vs Y) (he : ∀ u x v y, R u x → R' v y → EqAt A.in1 s u v (eq x y)) :
    EqAt A s (.ref l) (.ref b) (eqList eq X Y) := EqAt.of_refs hne (rcList hl hb hu ha ha' he)

/-- a list against the empty one -/
theorem neEmpty (hl : s.heap.get? l = some (listOf us.toArray n)) (hb : s.heap.get? b = some (listOf [].toArray k)) (hu : A.units < cLine) : RcNeAt A s (.ref l) (.ref b) (!us.isEmpty) := by
  cases us with
  | nil => exact RcNeAt.lists (e := fun _ => true) (isL hl) (isL hb) rfl hu fun j h1 => absurd h1 (by simp)
  | cons u us => exact RcNeAt.lists_lengths (isL hl) (isL hb) (by simp) hu
theorem rcEmpty (hl : s.heap.get? l = some (listOf us.toArray n)) (hb : s.heap.get? b = some (listOf [].toArray k)) (hu : A.units < cLine) : RcAt A s (.ref l) (.ref b) us.isEmpty := by
  cases us with
  | nil => exact RcAt.lists (e := fun _ => true) (isL hl) (isL hb) rfl hu fun j h1 => absurd h1 (by simp)
  | cons u us => exact RcAt.lists_lengths (isL hl) (isL hb) (by simp) hu
end

/-- e is the value v at s -/
def EvV (prog : Program) (w : World) (A : Around) (env : Env) (e : Expr) (v : Value) (s : Shared) : Prop := wpAny (model prog w) A (eval e env) (fun u s' => Grow s s' ∧ u = v) No s

section
variable {prog : Program} {w : World} {A : Around} {E : Value → Shared → Prop} {s : Shared} {env : Env} {e e1 e2 : Expr} {a b n : Int} {pos : Pos} {m : Str → Option Value} {v : Value}

theorem EvV.use {Q : Value → Shared → Prop} (h : EvV prog w A env e v s) (hQ : ∀ s', Grow s s' → Q v s') : wpAny (model prog w) A (eval e env) Q E s :=
  wpAny_mono h (fun u s' ⟨g, q⟩ => by rw [q]; exact hQ s' g) fun _ _ q => q.elim
theorem EvV.name {x : Str} (hn : s.heap.Ns env.locals m) (hv : m x = some v)
    (hk : env.scope.kind = .function := by rfl) (hl : env.kindOf x = some .local := by rfl) (hd : (x == ("__debug__" : Str)) = false := by decide) : EvV prog w A env (.Name x pos) v s :=
  ldE hn hv ⟨.refl _, rfl⟩ hk hl hd
/-- xs[-1] -/
theorem EvV.last {D : Addr} {vs : List Value} {k j : Nat} {p1 p2 : Pos} (h : EvV prog w A env e (.ref D) s) (hD : s.heap.get? D = some (listOf (vs ++ [v]).toArray j)) (hz : vs.length < 1000000) :
    EvV prog w A env (.Subscript e (.UnaryOp .USub (.Constant (.int 1) k p1) p2) pos) v s := by
  refine Subscript_ (h.use fun s₁ g₁ => (EvI.neg EvI.const).use fun s₂ t g₂ => ?_)
  have hL := isL (g₂.keep _ _ (g₁.keep _ _ hD))
  refine tail_any hL.typeIs slot_list_getitem.lookup (wpAny_getItem_list_neg (x := v) hL (by decide) (by simp; omega) (by decide) ?_ ⟨g₁.trans g₂, rfl⟩) (by with_unfolding_all rfl)
  simp only [List.size_toArray, List.length_append, List.length_cons, List.length_nil]
  have q : ((-1 : Int) + ((vs.length + (0 + 1) : Nat) : Int)).toNat = vs.length := by omega
  rw [q]; simp
/-- xs[0] -/
theorem EvV.head {D : Addr} {vs : List Value} {k j : Nat} {p1 : Pos} (h : EvV prog w A env e (.ref D) s) (hD : s.heap.get? D = some (listOf (v :: vs).toArray j)) :
    EvV prog w A env (.Subscript e (.Constant (.int 0) k p1) pos) v s := by
  refine Subscript_ (h.use fun s₁ g₁ => (EvI.const (n := 0)).use fun s₂ t g₂ => ?_)
  have hL := isL (g₂.keep _ _ (g₁.keep _ _ hD))
  exact tail_any hL.typeIs slot_list_getitem.lookup (wpAny_getItem_list (x := v) hL (by decide) (by decide) (by simp) ⟨g₁.trans g₂, rfl⟩) (by with_unfolding_all rfl)
theorem EvV.int {t : Tok} (h : EvV prog w A env e (.int n t) s) : EvI prog w A env e n s := wpAny_mono h (fun u s' ⟨g, q⟩ => ⟨g, t, q⟩) fun _ _ q => q

/-- «o.append(e)» as a statement -/
theorem appendAny {o : Expr} {pl : Sem Bool} {p1 p2 p3 : Pos} {D : Addr} {ms : List Value} {n : Nat} {Q : Flow → Shared → Prop} (ho : EvV prog w A env o (.ref D) s) (hD : s.heap.get? D = some (listOf ms.toArray n)) (hsz : ms.length < 1000000)
    (he : ∀ s₁, Grow s s₁ → wpAny (model prog w) A (eval e env) (fun v s₂ => Grow s₁ s₂ ∧ ∀ s', ExL D s₂ s' → s'.heap.get? D = some (listOf (ms ++ [v]).toArray (n + 1)) → Q .next s') E s₁)
    (hc : eval (.Call (.Attribute o "append" p1) [e] [] p2) env = (do
      let ov ← eval o env
      standAt p1.atName
      let (f, first) ← holding [ov] (getMethod ov "append" pl)
      callWith p2 f first (backTo p2 (starEach [e] env)) []) := by rfl)
    (hs : starEach [e] env = [(false, eval e env)] := by rfl) (hi : interactive env = false := by rfl) :
    wpAny (model prog w) A (exec (.Expr (.Call (.Attribute o "append" p1) [e] [] p2) p3) env) Q E s := by
  refine wpAny_Expr_any (MethodCall_ (ho.use fun s₀ g₀ => ?_) hc) hi rfl
  have hD₀ := g₀.keep _ _ hD
  refine getMethod_builtin ⟨_, hD₀, rfl⟩ PySem.F.plainAttrs_list slot_list_append PySem.F.type_list_append (fun x q => by cases q; exact ⟨_, hD₀, rfl⟩) ?_
  refine callWith_method1 (spliced_more (wpAny_mono (he s₀ g₀) (fun v s₁ ⟨g, h⟩ => spliced_none ?_) fun _ _ x => x) hs) hs rfl
  refine append_at (g.keep _ _ hD₀) (fun h' sb hD' => h _ ⟨fun b o n q => (sb.2 b n).trans q, rfl, rfl⟩ ?_) ?_
  · have q : ms.toArray.push v = (ms ++ [v]).toArray := by simp
    rw [q] at hD'; exact hD'
  · rw [List.size_toArray, sizeLine_eq]; omega

theorem mulAny {l : Addr} {items : Array Value} {k : Nat} {x : Int} {u : Tok} {Q : Value → Shared → Prop}
    (hl : s.heap.get? l = some { cls := .type "list", dict := none, data := .seq items k, slots := #[] })
    (hlo : -(2 ^ 63 : Int) ≤ x) (hhi : x < 2 ^ 63) (hsz : items.size * x.toNat ≤ 2 ^ 24)
    (h : Q (.ref s.heap.objs.size) { s with heap := s.heap.push { cls := .type "list", data := .seq (List.foldl (fun x1 x2 => x1 ++ x2) #[] (List.replicate (if items.isEmpty = true then 0 else x.toNat) items)) } }) :
    wpAny (model prog w) A (binaryOp .Mult (.ref l) (.int x u)) Q E s :=
  wpAny_binaryOp_repeat_ref (T := "list") (U := "int") (by decide) ⟨_, hl, rfl⟩ (fun s' => typeIs_int s' x u) noFill_list_mul F.fills_int_mul F.slot_int_rmul repeat_list F.slot_int_index.lookup
    (call_meets F.slot_int_rmul (typeIs_int s x u) F.entry_int_rmul (F.args_int_rmul_2 _ _) (int___rmul___int_list x u l items k)
      ⟨hl, rfl, ⟨_, hl, rfl⟩, call_meets F.slot_list_mul ⟨_, hl, rfl⟩ F.entry_list_mul (F.args_list_mul_2 _ _)
        (AutoListH.list___mul___list_int_3 l items k x u (by simp [Builtin.List.listFitsIndex]; omega) (by omega) (by simp [Builtin.List.listTooLong, sizeLine]; omega))
        ⟨hl, h⟩⟩)

/-- «[v] * x» -/
theorem mulList {l : Addr} {x : Nat} {u : Tok} {j : Nat} {Q : Value → Shared → Prop} (hl : s.heap.get? l = some (listOf [v].toArray j)) (hx : x < 1000000)
    (h : ∀ s' D, Grow s s' → s.heap.get? D = none → s'.heap.get? D = some (listOf (List.replicate x v).toArray 0) → Q (.ref D) s') : wpAny (model prog w) A (binaryOp .Mult (.ref l) (.int (x : Nat) u)) Q E s := by
  refine mulAny hl (by omega) (by omega) (by simp; omega) (h _ _ ⟨fun _ _ e => Heap.get?_push_of_some _ e, rfl, rfl⟩ (Heap.get?_none_of_le (Nat.le_refl _)) ?_)
  have q : ∀ (k : Nat) (acc : Array Value), List.foldl (fun x1 x2 => x1 ++ x2) acc (List.replicate k [v].toArray) = acc ++ (List.replicate k v).toArray := by
    intro k
    induction k with
    | zero => intro acc; simp
    | succ k ih => intro acc; rw [List.replicate_succ, List.foldl_cons, ih, List.replicate_succ]; apply Array.toList_inj.mp; simp
  have e : (if ([v].toArray).isEmpty = true then 0 else (x : Int).toNat) = x := by simp
  refine (Heap.get?_push_size s.heap rfl).trans ?_
  rw [q, e]
  simp

/-- «on.extend([e1] * e2)» as a statement -/
theorem extendMul {o : Expr} {pl : Sem Bool} {p1 p2 p3 q1 q2 : Pos} {D : Addr} {ms : List Value} {k x : Nat} {Q : Flow → Shared → Prop} (ho : EvV prog w A env o (.ref D) s) (hD : s.heap.get? D = some (listOf ms.toArray k)) (hsz : ms.length + x < 1000000)
    (h1 : ∀ s₁, Grow s s₁ → EvI prog w A env e1 a s₁) (h2 : ∀ s₁, Grow s s₁ → EvI prog w A env e2 (x : Nat) s₁)
    (hQ : ∀ s' k' t, ExL D s s' → s'.heap.get? D = some (listOf (ms ++ List.replicate x (Value.int a t)).toArray k') → Q .next s')
    (hc : eval (.Call (.Attribute o "extend" p1) [.BinOp (.List [e1] q1) .Mult e2 q2] [] p2) env = (do
      let ov ← eval o env
      standAt p1.atName
      let (f, first) ← holding [ov] (getMethod ov "extend" pl)
      callWith p2 f first (backTo p2 (starEach [.BinOp (.List [e1] q1) .Mult e2 q2] env)) []) := by rfl)
    (hs : starEach [e1] env = [(false, eval e1 env)] := by rfl) (hi : interactive env = false := by rfl) :
    wpAny (model prog w) A (exec (.Expr (.Call (.Attribute o "extend" p1) [.BinOp (.List [e1] q1) .Mult e2 q2] [] p2) p3) env) Q E s := by
  refine wpAny_Expr_any (MethodCall_ (ho.use fun s₀ g₀ => ?_) hc) hi rfl
  have hD₀ := g₀.keep _ _ hD
  refine getMethod_builtin ⟨_, hD₀, rfl⟩ PySem.F.plainAttrs_list PySem.F.slot_list_extend PySem.F.type_list_extend (fun x q => by cases q; exact ⟨_, hD₀, rfl⟩) ?_
  refine callWith_method1 (spliced_more (wpAny_BinOp (List_ (spliced_more ((h1 s₀ g₀).use fun s₁ t g₁ => spliced_none (newList_ fun s₂ l g₂ hl _ => ?_)) hs))) rfl) rfl rfl
  refine (h2 s₂ ((g₀.trans g₁).trans g₂)).use fun s₃ t' g₃ => ?_
  refine mulList (g₃.keep _ _ hl) (by omega) fun s₄ B g₄ _ hB => spliced_none ?_
  have g := (g₁.trans g₂).trans (g₃.trans g₄)
  refine extendCall (g.keep _ _ hD₀) hB (by rw [List.length_replicate]; omega) fun s' n' g' hD' => hQ s' n' t ((g₀.trans g).exL.trans g') hD'

/-- «(n0, .., n4)[e]» -/
theorem EvI.tup5 {n0 n1 n2 n3 n4 : Int} {k0 k1 k2 k3 k4 kk : Nat} {p0 p1 p2 p3 p4 pt q : Pos} {op : Operator} (h : ∀ s', Grow s s' → EvI prog w A env (.BinOp e1 op e2 q) n s') (hn : 0 ≤ n) (hn' : n < 5)
    (hs : starEach [.Constant (.int n0) k0 p0, .Constant (.int n1) k1 p1, .Constant (.int n2) k2 p2, .Constant (.int n3) k3 p3, .Constant (.int n4) k4 p4] env = [(false, eval (.Constant (.int n0) k0 p0) env), (false, eval (.Constant (.int n1) k1 p1) env), (false, eval (.Constant (.int n2) k2 p2) env), (false, eval (.Constant (.int n3) k3 p3) env), (false, eval (.Constant (.int n4) k4 p4) env)] := by rfl) :
    EvI prog w A env (.Subscript (.Tuple [.Constant (.int n0) k0 p0, .Constant (.int n1) k1 p1, .Constant (.int n2) k2 p2, .Constant (.int n3) k3 p3, .Constant (.int n4) k4 p4] kk pt) (.BinOp e1 op e2 q) pos) ([n0, n1, n2, n3, n4].getD n.toNat 0) s := by
  refine Subscript_ (Tuple_ ?_)
  refine spliced_more (EvI.const.use fun s₁ t1 g₁ => spliced_more (EvI.const.use fun s₂ t2 g₂ => spliced_more (EvI.const.use fun s₃ t3 g₃ => spliced_more (EvI.const.use fun s₄ t4 g₄ => spliced_more (EvI.const.use fun s₅ t5 g₅ => spliced_none (newTuple_ fun s₆ T g₆ hT _ => ?_)) rfl) rfl) rfl) rfl) hs
  have g := g₁.trans (g₂.trans (g₃.trans (g₄.trans (g₅.trans g₆))))
  refine (h s₆ g).use fun s₇ t7 g₇ => ?_
  have hT' : IsTup s₇.heap T [.int n0 t1, .int n1 t2, .int n2 t3, .int n3 t4, .int n4 t5].toArray := ⟨_, g₇.keep _ _ hT, rfl, _, rfl⟩
  obtain ⟨i, rfl⟩ : ∃ i : Nat, n = (i : Nat) := ⟨n.toNat, by omega⟩
  have hi : i < 5 := by omega
  refine item_tupleT (j := i) hT' (by omega) (by omega) (by unfold seqIndex?; have h5 : ([Value.int n0 t1, .int n1 t2, .int n2 t3, .int n3 t4, .int n4 t5] : List Value).length = 5 := rfl; rw [h5]; match i, hi with | 0, _ => rfl | 1, _ => rfl | 2, _ => rfl | 3, _ => rfl | 4, _ => rfl) (List.getElem?_eq_getElem (by simpa using hi)) ⟨g.trans g₇, ?_⟩ (by with_unfolding_all rfl)
  match i, hi with
  | 0, _ => exact ⟨_, rfl⟩
  | 1, _ => exact ⟨_, rfl⟩
  | 2, _ => exact ⟨_, rfl⟩
  | 3, _ => exact ⟨_, rfl⟩
  | 4, _ => exact ⟨_, rfl⟩
end

/-- all but two objects stand -/
structure Ex2 (a b : Addr) (s s' : Shared) : Prop where
  keep : ∀ c o, c ≠ a → c ≠ b → s.heap.get? c = some o → s'.heap.get? c = some o
  os : s'.os = s.os
  gens : s'.gens = s.gens
theorem ExL.ex2l {a b : Addr} {s s' : Shared} (g : ExL a s s') : Ex2 a b s s' := ⟨fun c o n _ e => g.keep c o n e, g.os, g.gens⟩
theorem ExL.ex2r {a b : Addr} {s s' : Shared} (g : ExL b s s') : Ex2 a b s s' := ⟨fun c o _ n e => g.keep c o n e, g.os, g.gens⟩
theorem Ex2.trans {a b : Addr} {s s' s'' : Shared} (x : Ex2 a b s s') (y : Ex2 a b s' s'') : Ex2 a b s s'' := ⟨fun c o n n' e => y.keep c o n n' (x.keep c o n n' e), y.os.trans x.os, y.gens.trans x.gens⟩

section
variable {prog : Program} {w : World} {A : Around} {E : Value → Shared → Prop} {s : Shared} {α : Type}

theorem srcListF {RA : Value → α → Prop} {X : List α} {vs : List Value} {l : Addr} {n : Nat} {s₁ : Shared} (g : Grow s s₁) (hl : s₁.heap.get? l = some (listOf vs.toArray n)) (ha : All2 RA vs X) :
    wpAny (model prog w) A (pyIter (.ref l)) (fun itv s₂ => ∃ it V P, itv = .ref it ∧ Src prog w s s₂ RA X it [it, l] V P) E s₁ := by
  refine pyIterList hl fun s₂ it g₂ ni nil st => ⟨it, fun k v => vs[k]? = some v, fun k h => h.IsListIter it l k ∧ h.IsList l vs.toArray, rfl, ?_⟩
  have D := iterList (prog := prog) (w := w) (vs := vs) nil
  have e := ha.length
  refine ⟨by rw [← e]; exact D, st, g.trans g₂, ?_, D.there st, ?_, fun k v hk hv => ?_⟩
  · cases q : s.heap.get? it with
    | none => rfl
    | some o => rw [g.keep _ _ q] at ni; cases ni
  · intro b hb q
    rcases List.mem_cons.mp hb with rfl | hb
    · exact D.there st q
    · rw [List.mem_singleton.mp hb, g₂.keep _ _ hl] at q; cases q
  · have hk' : k < vs.length := by omega
    have : v = vs[k] := by rw [List.getElem?_eq_getElem hk'] at hv; exact (Option.some.inj hv).symm
    rw [this]
    exact ha.get k hk' hk

/-- the same, for a list of which no more is known -/
theorem srcListI {RA : Value → α → Prop} {X : List α} {vs : List Value} {l : Addr} {s₁ : Shared} (g : Grow s s₁) (hL : s₁.heap.IsList l vs.toArray) (ha : All2 RA vs X) :
    wpAny (model prog w) A (pyIter (.ref l)) (fun itv s₂ => ∃ it V P, itv = .ref it ∧ Src prog w s s₂ RA X it [it, l] V P) E s₁ := by
  obtain ⟨o, ho, r⟩ := id hL
  refine wpAny_pyIter_list hL ⟨_, fun k v => vs[k]? = some v, fun k h => h.IsListIter s₁.heap.objs.size l k ∧ h.IsList l vs.toArray, rfl, ?_⟩
  have nil : s₁.heap.objs.size ≠ l := Nat.ne_of_gt (Heap.lt_size ho)
  have D := iterList (prog := prog) (w := w) (vs := vs) nil
  have e := ha.length
  refine ⟨by rw [← e]; exact D, ⟨⟨_, Heap.get?_push_size _ rfl, rfl, rfl⟩, hL.push _⟩, g.trans ⟨fun _ _ e => Heap.get?_push_of_some _ e, rfl, rfl⟩, ?_, ?_, ?_, fun k v hk hv => ?_⟩
  · cases q : s.heap.get? s₁.heap.objs.size with
    | none => rfl
    | some o => exact absurd (Heap.lt_size (g.keep _ _ q)) (Nat.lt_irrefl _)
  · rw [Heap.get?_push_size _ rfl]; exact fun q => by cases q
  · intro b hb q
    rcases List.mem_cons.mp hb with rfl | hb
    · rw [Heap.get?_push_size _ rfl] at q; cases q
    · rw [List.mem_singleton.mp hb, Heap.get?_push_of_some _ ho] at q; cases q
  · have hk' : k < vs.length := by omega
    have : v = vs[k] := by rw [List.getElem?_eq_getElem hk'] at hv; exact (Option.some.inj hv).symm
    rw [this]
    exact ha.get k hk' hk

theorem srcRangeF {n : Nat} {r : Addr} {t u v : Tok} {s₁ : Shared} (g : Grow s s₁) (hr : IsRange s₁.heap r 0 (n : Nat) 1 t u v) (hn : n < 1000000) :
    wpAny (model prog w) A (pyIter (.ref r)) (fun itv s₂ => ∃ it V P, itv = .ref it ∧ Src prog w s s₂ (fun v (k : Nat) => ∃ t, v = .int (k : Nat) t) (List.range n) it [it] V P) E s₁ := by
  refine pyIterRange hr hn fun s₂ it g₂ ni st => ⟨it, fun k v => ∃ t, v = .int (k : Nat) t, fun k h => IsRangeIter h it (k : Nat) ((n : Int) - (k : Nat)) 1, rfl, ?_⟩
  have D := iterRange (prog := prog) (w := w) (it := it) (n := n)
  refine ⟨by rw [List.length_range]; exact D, st, g.trans g₂, ?_, D.there st, ?_, fun k v hk hv => ?_⟩
  · cases q : s.heap.get? it with
    | none => rfl
    | some o => rw [g.keep _ _ q] at ni; cases ni
  · intro b hb q
    rw [List.mem_singleton.mp hb] at q
    exact D.there st q
  · simpa using hv
end

section
variable {prog : Program} {w : World} {A : Around} {E : Value → Shared → Prop} {s : Shared} {name : Str} {fscope : Scope} {L a : Addr} {cd : Value} {base : Heap} {m : Str → Option Value} {α : Type}

/-- a for-loop in a function -/
theorem forS {RA : Value → α → Prop} {X : List α} {fps : Addr → List Addr} {x : Str} {px pos : Pos} {iter : Expr} {body : List Stmt} {Q : Flow → Shared → Prop} (F : Fr base L s.heap m) (hh : A.handled = none)
    (hsrc : wpAny (model prog w) A (eval iter (envOf name fscope L a cd)) (fun y s₁ => wpAny (model prog w) A (pyIter y) (fun itv s₂ => ∃ it V P, itv = .ref it ∧ Src prog w s s₂ RA X it (fps it) V P) E s₁) E s)
    (hfp : ∀ it, s.heap.get? it = none → L ∉ fps it)
    (J : Addr → Nat → Shared → (Str → Option Value) → Prop)
    (hJ : ∀ it k s₁ s₂ m', s.heap.get? it = none → J it k s₁ m' → Ex2 it L s₁ s₂ → J it k s₂ m')
    (h0 : ∀ it s₁, s.heap.get? it = none → Grow s s₁ → J it 0 s₁ m)
    (turn : ∀ it k v s₁ m₁ (hk : k < X.length), s.heap.get? it = none → it ≠ L → s₁.heap.get? it ≠ none → (∀ b ∈ fps it, s₁.heap.get? b ≠ none) → RA v X[k] → Fr base L s₁.heap (upd m₁ x v) → J it k s₁ m₁ →
      wpAny (model prog w) A (execs body (envOf name fscope L a cd)) (fun f s₃ => (f = .next ∧ Stay (fps it) s₁.heap s₃.heap ∧ ∃ m₃, Fr base L s₃.heap m₃ ∧ J it (k + 1) s₃ m₃) ∨ ∃ v, f = .ret v ∧ Q (.ret v) s₃) No s₁)
    (hQ : ∀ it s' m', s.heap.get? it = none → Fr base L s'.heap m' → J it X.length s' m' → Q .next s')
    (hk : fscope.kind = .function := by rfl) (hl : (envOf name fscope L a cd).kindOf x = some .local := by rfl)
    (hs : ∀ x, foldedSetIterable iter (envOf name fscope L a cd) x = pure x := by intro _; rfl) :
    wpAny (model prog w) A (exec (.For (.Name x px) iter body [] pos) (envOf name fscope L a cd)) Q E s := by
  refine wpAny_For (wpAny_mono hsrc (fun y s₁ h₁ => wpAny_mono h₁ (fun itv s₂ h₂ => ?_) fun _ _ e => e) fun _ _ e => e) hs
  obtain ⟨it, V, P, rfl, S⟩ := h₂
  have ni := S.ni
  have iL : it ≠ L := fun q => hfp it ni (q ▸ S.D.mem)
  have fL := hfp it ni
  have bi : base.get? it = none := by
    cases q : base.get? it with
    | none => rfl
    | some o => rw [F.keep _ _ q] at ni; cases ni
  refine forIt (R := fun r s' => match r with | .ok f => Q f s' | .error e => cameBackBy (model prog w) A (envOf name fscope L a cd) E e s') S.D hh S.p0 (fun k s₁ => (∀ b ∈ fps it, b ≠ it → s₁.heap.get? b ≠ none) ∧ ∃ m₁, Fr base L s₁.heap m₁ ∧ J it k s₁ m₁) ?_ ⟨fun b hb _ => S.fp b hb, m, frGrow F S.g, h0 it s₂ ni S.g⟩ ?_ ?_
  · rintro k s₁ s₃ ⟨hf, m₁, F₁, j₁⟩ g
    refine ⟨fun b hb n q => ?_, m₁, frExL F₁ g (Ne.symm iL) bi, hJ it k s₁ s₃ m₁ ni j₁ g.ex2l⟩
    cases e : s₁.heap.get? b with
    | none => exact hf b hb n e
    | some o => rw [g.keep _ _ n e] at q; cases q
  · rintro k v s₁ hk' hv hp ⟨hf, m₁, F₁, j₁⟩
    have git := S.D.there hp
    refine st_ F₁ (fun s₂ F₂ g₂ => ?_) hk hl
    have k12 : ∀ b, b ≠ L → s₁.heap.get? b ≠ none → s₂.heap.get? b ≠ none := fun b n e q => by
      cases e' : s₁.heap.get? b with
      | none => exact e e'
      | some o => rw [g₂.keep _ _ n e'] at q; cases q
    refine wpAny_mono (turn it k v s₂ m₁ hk' ni iL (k12 it iL git) (fun b hb => k12 b (fun q => fL (q ▸ hb)) ?_) (S.ra k v hk' hv) F₂ (hJ it k s₁ s₂ m₁ ni j₁ g₂.ex2r)) (fun f s₃ h₃ => ?_) fun _ _ q => q
    · by_cases q : b = it
      · rw [q]; exact git
      · exact hf b hb q
    · rcases h₃ with ⟨rfl, st, m₃, F₃, j₃⟩ | h₃
      · refine .inl ⟨rfl, fun b hb o e => st b hb o (g₂.keep b o (fun q => fL (q ▸ hb)) e), fun b hb n q => ?_, m₃, F₃, j₃⟩
        cases e : s₁.heap.get? b with
        | none => exact hf b hb n e
        | some o => rw [st b hb o (g₂.keep b o (fun q => fL (q ▸ hb)) e)] at q; cases q
      · exact .inr h₃
  · rintro s' ⟨_, m', F', j'⟩
    exact hQ it s' m' ni F' j'
end

section
variable {prog : Program} {w : World} {A : Around} {E : Value → Shared → Prop} {s : Shared} {env : Env} {e lo : Expr} {pos p : Pos} {D : Addr} {vs : List Value} {j k : Nat}

/-- xs[lo:] -/
theorem sliceFrom {Q : Value → Shared → Prop} (h : EvV prog w A env e (.ref D) s) (hD : s.heap.get? D = some (listOf vs.toArray j)) (hz : vs.length < 1000000) (hk : ∀ s₁, Grow s s₁ → EvI prog w A env lo (k : Nat) s₁)
    (hQ : ∀ s' B, Grow s s' → s.heap.get? B = none → s'.heap.get? B = some (listOf (vs.drop k).toArray 0) → Q (.ref B) s') : wpAny (model prog w) A (eval (.Subscript e (.Slice (some lo) none none p) pos) env) Q E s := by
  refine Subscript_ (h.use fun s₁ g₁ => wpAny_Slice ?_)
  rw [evalPart_some, evalPart_none]
  refine (hk s₁ g₁).use fun s₂ t g₂ => wpAny_pure (wpAny_pure ?_)
  have g₃ : Grow s₂ { s₂ with heap := s₂.heap.push { cls := .type "slice", data := .fields #[.int (k : Nat) t, .none, .none] } } := ⟨fun _ _ e => Heap.get?_push_of_some _ e, rfl, rfl⟩
  have g := g₁.trans (g₂.trans g₃)
  have hL := isL (g.keep _ _ hD)
  refine tail_any hL.typeIs slot_list_getitem.lookup (wpAny_getItem_list_slice hL (Heap.IsSliceOf.new ..) (.int _ _) .none .none (by simp) ?_ (by rw [List.size_toArray, sizeLine_eq]; omega)) rfl
  have e : slicePick vs.toArray (some (k : Int)) none none = (vs.drop k).toArray := by rw [slicePick_from']
  rw [e]
  refine hQ _ _ ⟨fun _ _ e => Heap.get?_push_of_some _ (g.keep _ _ e), g.os, g.gens⟩ ?_ (Heap.get?_push_size _ rfl)
  cases q : s.heap.get? (s₂.heap.push { cls := .type "slice", data := .fields #[.int (k : Nat) t, .none, .none] }).objs.size with
  | none => rfl
  | some o => exact absurd (Heap.lt_size (g.keep _ _ q)) (Nat.lt_irrefl _)

/-- xs[:] -/
theorem sliceAll {Q : Value → Shared → Prop} (h : EvV prog w A env e (.ref D) s) (hD : s.heap.get? D = some (listOf vs.toArray j)) (hz : vs.length < 1000000)
    (hQ : ∀ s' B, Grow s s' → s.heap.get? B = none → s'.heap.get? B = some (listOf vs.toArray 0) → Q (.ref B) s') : wpAny (model prog w) A (eval (.Subscript e (.Slice none none none p) pos) env) Q E s := by
  refine Subscript_ (h.use fun s₁ g₁ => wpAny_Slice ?_)
  simp only [evalPart_none]
  refine wpAny_pure (wpAny_pure (wpAny_pure ?_))
  have g₃ : Grow s₁ { s₁ with heap := s₁.heap.push { cls := .type "slice", data := .fields #[.none, .none, .none] } } := ⟨fun _ _ e => Heap.get?_push_of_some _ e, rfl, rfl⟩
  have g := g₁.trans g₃
  have hL := isL (g.keep _ _ hD)
  refine tail_any hL.typeIs slot_list_getitem.lookup (wpAny_getItem_list_slice hL (Heap.IsSliceOf.new ..) .none .none .none (by simp) ?_ (by rw [List.size_toArray, sizeLine_eq]; omega)) rfl
  rw [slicePick_all]
  refine hQ _ _ ⟨fun _ _ e => Heap.get?_push_of_some _ (g.keep _ _ e), g.os, g.gens⟩ ?_ (Heap.get?_push_size _ rfl)
  cases q : s.heap.get? (s₁.heap.push { cls := .type "slice", data := .fields #[.none, .none, .none] }).objs.size with
  | none => rfl
  | some o => exact absurd (Heap.lt_size (g.keep _ _ q)) (Nat.lt_irrefl _)

/-- len(xs) -/
theorem EvI.len {x : Str} {p1 : Pos} (hb : wpAny (model prog w) A (eval (.Name x p) env) (fun v s' => v = .builtin "len" ∧ s' = s) No s) (h : EvV prog w A env e (.ref D) s) (hD : s.heap.get? D = some (listOf vs.toArray j)) (hz : vs.length < 1000000)
    (hc : eval (.Call (.Name x p) [e] [] p1) env = (do callWith p1 (← eval (.Name x p) env) [] (backTo p1 (starEach [e] env)) (backToKw p1 (keywordEach [] env))) := by rfl)
    (q1 : starEach [e] env = (false, eval e env) :: starEach [] env := by rfl) :
    EvI prog w A env (.Call (.Name x p) [e] [] p1) (vs.length : Nat) s := by
  refine Call_ (wpAny_mono hb (fun v s' ⟨q, q'⟩ => ?_) fun _ _ q => q) hc
  subst q q'
  refine callWith_builtin1 (spliced_more (h.use fun s₁ g => spliced_none ?_) q1) q1 rfl
  refine len_list (isL (g.keep _ _ hD)) (by rw [List.size_toArray]; omega) ?_
  rw [List.size_toArray]
  exact ⟨g.trans (Grow.toks _ _), _, rfl⟩
end

section
variable {prog : Program} {w : World} {A : Around} {E : Value → Shared → Prop} {s : Shared}
open MeetsSeq MeetsSeq2 MeetsSeq3

theorem loopLt (l b : Addr) (x y : Int) (tx ty : Tok) (n n2 : Nat) : Meets (Builtin.«list.__lt__» ⟨[.ref l, .ref b], []⟩)
    (fun _ R s => s.heap.get? l = some (listOf #[.int x tx] n) ∧ s.heap.get? b = some (listOf #[.int y ty] n2) ∧ R (.ok (.ret (.bool (decide (x < y))))) s) := by
  intro prog w A R s h
  obtain ⟨hp, g, d, tk, os⟩ := s; obtain ⟨hl, hb, h⟩ := h
  have f3 := AutoSeq1.sub_list_list
  wp_walk using PySem.AutoSeq1.wpAny_loadPart' hl, PySem.AutoSeq1.wpAny_loadPart' hb
  refine ⟨plainId_quiet plain_eq_loop _, codeAny_builtin entry_eq_loop ?_⟩
  rw [Around.under_plainId plain_eq_loop _]
  wp_walk using PySem.AutoSeq1.wpAny_loadPart' hl, PySem.AutoSeq1.wpAny_loadPart' hb
  refine EqAt.int_int x tx y ty prog w _ _ ?_
  by_cases e : x = y
  · rw [show (x == y) = true by simpa using e, if_pos rfl]
    wp_walk
    refine ⟨plainId_quiet plain_eq_loop _, codeAny_builtin entry_eq_loop ?_⟩
    rw [Around.under_plainId plain_eq_loop _]
    wp_walk using PySem.AutoSeq1.wpAny_loadPart' hl, PySem.AutoSeq1.wpAny_loadPart' hb
    rw [show decide (x < y) = false by simp; omega] at h
    exact h
  · rw [show (x == y) = false by simpa using e, if_neg (by decide)]
    refine wpAny_bind (listItems_at hl rfl (wpAny_bind (listItems_at hb rfl ?_)))
    show wpAny _ _ (compareOp .Lt (.int x tx) (.int y ty) >>= fun r => ret r) _ _ _
    exact wpAny_bind (PyProof.Rows.lt_int (wpAny_pure h))

theorem loopGt (l b : Addr) (x y : Int) (tx ty : Tok) (n n2 : Nat) : Meets (Builtin.«list.__gt__» ⟨[.ref l, .ref b], []⟩)
    (fun _ R s => s.heap.get? l = some (listOf #[.int x tx] n) ∧ s.heap.get? b = some (listOf #[.int y ty] n2) ∧ R (.ok (.ret (.bool (decide (x > y))))) s) := by
  intro prog w A R s h
  obtain ⟨hp, g, d, tk, os⟩ := s; obtain ⟨hl, hb, h⟩ := h
  have f3 := AutoSeq1.sub_list_list
  wp_walk using PySem.AutoSeq1.wpAny_loadPart' hl, PySem.AutoSeq1.wpAny_loadPart' hb
  refine ⟨plainId_quiet plain_eq_loop _, codeAny_builtin entry_eq_loop ?_⟩
  rw [Around.under_plainId plain_eq_loop _]
  wp_walk using PySem.AutoSeq1.wpAny_loadPart' hl, PySem.AutoSeq1.wpAny_loadPart' hb
  refine EqAt.int_int x tx y ty prog w _ _ ?_
  by_cases e : x = y
  · rw [show (x == y) = true by simpa using e, if_pos rfl]
    wp_walk
    refine ⟨plainId_quiet plain_eq_loop _, codeAny_builtin entry_eq_loop ?_⟩
    rw [Around.under_plainId plain_eq_loop _]
    wp_walk using PySem.AutoSeq1.wpAny_loadPart' hl, PySem.AutoSeq1.wpAny_loadPart' hb
    rw [show decide (x > y) = false by simp; omega] at h
    exact h
  · rw [show (x == y) = false by simpa using e, if_neg (by decide)]
    refine wpAny_bind (listItems_at hl rfl (wpAny_bind (listItems_at hb rfl ?_)))
    show wpAny _ _ (compareOp .Gt (.int x tx) (.int y ty) >>= fun r => ret r) _ _ _
    exact wpAny_bind (PyProof.Rows.gt_int (wpAny_pure h))

theorem ltL1 {l b : Addr} {x y : Int} {tx ty : Tok} {n n2 : Nat} {Q : Value → Shared → Prop} (hl : s.heap.get? l = some (listOf #[.int x tx] n)) (hb : s.heap.get? b = some (listOf #[.int y ty] n2)) (hu : A.units < cLine) (h : Q (.bool (decide (x < y))) s) :
    wpAny (model prog w) A (compareOp .Lt (.ref l) (.ref b)) Q E s :=
  cmp_ofLt (richCompare_meets_room (op := .Lt) ⟨_, hl, rfl⟩ ⟨_, hb, rfl⟩ PySem.F.slot_list_lt PySem.F.entry_list_lt (PySem.F.args_list_lt_2 _ _) (loopLt l b x y tx ty n n2) ⟨hl, hb, show Value.bool _ ≠ Value.notImplemented ∧ Q _ s from ⟨(fun x => nomatch x), h⟩⟩ hu)
theorem gtL1 {l b : Addr} {x y : Int} {tx ty : Tok} {n n2 : Nat} {Q : Value → Shared → Prop} (hl : s.heap.get? l = some (listOf #[.int x tx] n)) (hb : s.heap.get? b = some (listOf #[.int y ty] n2)) (hu : A.units < cLine) (h : Q (.bool (decide (x > y))) s) :
    wpAny (model prog w) A (compareOp .Gt (.ref l) (.ref b)) Q E s :=
  cmp_ofGt (richCompare_meets_room (op := .Gt) ⟨_, hl, rfl⟩ ⟨_, hb, rfl⟩ PySem.F.slot_list_gt PySem.F.entry_list_gt (PySem.F.args_list_gt_2 _ _) (loopGt l b x y tx ty n n2) ⟨hl, hb, show Value.bool _ ≠ Value.notImplemented ∧ Q _ s from ⟨(fun x => nomatch x), h⟩⟩ hu)

/-- lists that hold the very same items -/
theorem neSame {l b : Addr} {us : List Value} {n k : Nat} (hl : s.heap.get? l = some (listOf us.toArray n)) (hb : s.heap.get? b = some (listOf us.toArray k)) (hu : A.units < cLine) : RcNeAt A s (.ref l) (.ref b) false := by
  have := RcNeAt.lists (e := fun _ => true) (isL hl) (isL hb) rfl hu fun j h1 h2 => EqAt.same _
  have e : ((List.range us.toArray.size).all fun _ => true) = true := by simp
  rw [e] at this; exact this
theorem eqSame {l b : Addr} {us : List Value} {n k : Nat} (hl : s.heap.get? l = some (listOf us.toArray n)) (hb : s.heap.get? b = some (listOf us.toArray k)) (hu : A.units < cLine) : RcAt A s (.ref l) (.ref b) true := by
  have := RcAt.lists (e := fun _ => true) (isL hl) (isL hb) rfl hu fun j h1 h2 => EqAt.same _
  have e : ((List.range us.toArray.size).all fun _ => true) = true := by simp
  rw [e] at this; exact this
end

section
variable {prog : Program} {w : World} {A : Around} {E : Value → Shared → Prop} {s : Shared} {env : Env} {e e1 e2 : Expr} {pos p : Pos} {v : Value}

/-- xs[e], an index that is there -/
theorem EvV.item {D : Addr} {vs : List Value} {j i : Nat} {sl : Expr} (h : EvV prog w A env e (.ref D) s) (hD : s.heap.get? D = some (listOf vs.toArray j)) (hi : vs[i]? = some v) (hz : i < 1000000) (hs : ∀ s₁, Grow s s₁ → EvI prog w A env sl (i : Nat) s₁)
    (hq : ∀ t, subscripted sl false (.ref D) (.int (i : Nat) t) = operate [.ref D, .int (i : Nat) t] (getItem (.ref D) (.int (i : Nat) t)) := by intro _; with_unfolding_all rfl) : EvV prog w A env (.Subscript e sl pos) v s := by
  refine Subscript_ (h.use fun s₁ g₁ => (hs s₁ g₁).use fun s₂ t g₂ => ?_)
  have hL := isL (g₂.keep _ _ (g₁.keep _ _ hD))
  exact tail_any hL.typeIs slot_list_getitem.lookup (wpAny_getItem_list (x := v) hL (by omega) (by omega) (by simpa using hi) ⟨g₁.trans g₂, rfl⟩) (hq t)

/-- divmod(e, 3)[w] -/
theorem EvI.divmod {x : Str} {a b : Int} {k i : Nat} {p1 p2 p3 : Pos} {y : Str} {m : Str → Option Value} {t : Tok} (hb : wpAny (model prog w) A (eval (.Name x p) env) (fun v s' => v = .builtin "divmod" ∧ s' = s) No s)
    (h1 : EvI prog w A env e1 a s) (h0 : b ≠ 0) (hs : b.natAbs < 1073741824) (hn : s.heap.Ns env.locals m) (hv : m y = some (.int (i : Nat) t)) (hi : i < 2)
    (hk : env.scope.kind = .function := by rfl) (hl : env.kindOf y = some .local := by rfl) (hd : (y == ("__debug__" : Str)) = false := by decide)
    (hc : eval (.Call (.Name x p) [e1, .Constant (.int b) k p2] [] p1) env = (do callWith p1 (← eval (.Name x p) env) [] (backTo p1 (starEach [e1, .Constant (.int b) k p2] env)) (backToKw p1 (keywordEach [] env))) := by rfl)
    (q1 : starEach [e1, .Constant (.int b) k p2] env = (false, eval e1 env) :: starEach [.Constant (.int b) k p2] env := by rfl) (q2 : starEach [.Constant (.int b) k p2] env = (false, eval (.Constant (.int b) k p2) env) :: starEach [] env := by rfl) :
    EvI prog w A env (.Subscript (.Call (.Name x p) [e1, .Constant (.int b) k p2] [] p1) (.Name y p3) pos) (if i = 0 then a.fdiv b else a.fmod b) s := by
  refine Subscript_ (Call_ (wpAny_mono hb (fun v s' ⟨q, q'⟩ => ?_) fun _ _ q => q) hc)
  subst q q'
  refine callWith_builtin1 (spliced_more (h1.use fun s₁ t1 g₁ => spliced_more (EvI.const.use fun s₂ t2 g₂ => spliced_none ?_) q2) q1) q1 (by rw [q2]; rfl)
  refine divmod_int h0 ?_ (.inl (PyProof.noPylong_small hs))
  have g₃ : Grow s₂ { s₂ with toks := s₂.toks + 1 + 1, heap := s₂.heap.push { cls := .type "tuple", data := .seq #[.int (a.fdiv b) s₂.toks, .int (a.fmod b) (s₂.toks + 1)] } } := ⟨fun _ _ e => Heap.get?_push_of_some _ e, rfl, rfl⟩
  have g := g₁.trans (g₂.trans g₃)
  refine ldE (hn.keeps g.keep) hv ?_ hk hl hd
  have hT : IsTup (s₂.heap.push { cls := .type "tuple", data := .seq #[.int (a.fdiv b) s₂.toks, .int (a.fmod b) (s₂.toks + 1)] }) s₂.heap.objs.size [Value.int (a.fdiv b) s₂.toks, .int (a.fmod b) (s₂.toks + 1)].toArray := ⟨_, Heap.get?_push_size _ rfl, rfl, _, rfl⟩
  have hi' : i = 0 ∨ i = 1 := by omega
  rcases hi' with rfl | rfl
  · exact item_tupleT (j := 0) (l := [Value.int (a.fdiv b) s₂.toks, .int (a.fmod b) (s₂.toks + 1)]) hT (by decide) (by decide) (by rfl) rfl ⟨g, _, rfl⟩ (by with_unfolding_all rfl)
  · exact item_tupleT (j := 1) (l := [Value.int (a.fdiv b) s₂.toks, .int (a.fmod b) (s₂.toks + 1)]) hT (by decide) (by decide) (by rfl) rfl ⟨g, _, rfl⟩ (by with_unfolding_all rfl)

/-- range(len(xs)) as what is walked over -/
theorem rangeLen {D : Addr} {vs : List Value} {j : Nat} {x y : Str} {p1 p2 p3 : Pos} (hr : wpAny (model prog w) A (eval (.Name x p) env) (fun v s' => v = .type "range" ∧ s' = s) No s)
    (hn : ∀ s₁, Grow s s₁ → wpAny (model prog w) A (eval (.Name y p1) env) (fun v s' => v = .builtin "len" ∧ s' = s₁) No s₁) (h : ∀ s₁, Grow s s₁ → EvV prog w A env e (.ref D) s₁) (hD : s.heap.get? D = some (listOf vs.toArray j)) (hz : vs.length < 1000000)
    (hc : eval (.Call (.Name x p) [.Call (.Name y p1) [e] [] p2] [] p3) env = (do callWith p3 (← eval (.Name x p) env) [] (backTo p3 (starEach [.Call (.Name y p1) [e] [] p2] env)) (backToKw p3 (keywordEach [] env))) := by rfl)
    (q1 : starEach [.Call (.Name y p1) [e] [] p2] env = (false, eval (.Call (.Name y p1) [e] [] p2) env) :: starEach [] env := by rfl)
    (hc' : eval (.Call (.Name y p1) [e] [] p2) env = (do callWith p2 (← eval (.Name y p1) env) [] (backTo p2 (starEach [e] env)) (backToKw p2 (keywordEach [] env))) := by rfl)
    (q1' : starEach [e] env = (false, eval e env) :: starEach [] env := by rfl) :
    wpAny (model prog w) A (eval (.Call (.Name x p) [.Call (.Name y p1) [e] [] p2] [] p3) env) (fun v s₁ => ∃ r t u w', v = .ref r ∧ Grow s s₁ ∧ IsRange s₁.heap r 0 (vs.length : Nat) 1 t u w') E s := by
  refine Call_ (wpAny_mono hr (fun v s' ⟨q, q'⟩ => ?_) fun _ _ q => q.elim) hc
  subst q q'
  refine callWith_type1 (spliced_more ((EvI.len (hn s' (.refl _)) (h s' (.refl _)) hD hz hc' q1').use fun s₁ t g => spliced_none ?_) q1) q1 rfl
  refine call_range_1 ⟨_, _, _, _, rfl, g.trans ⟨fun _ _ e => Heap.get?_push_of_some _ e, rfl, rfl⟩, Heap.get?_push_size _ rfl⟩
end

/-- the order of a sort: a rank for each item that it meets -/
structure Ord (prog : Program) (w : World) (A : Around) (s : Shared) (κ : SortKind) (key : Keyed → Int) (P : Keyed → Prop) : Prop where
  lt : ∀ {E : Value → Shared → Prop} {Q : Bool → Shared → Prop} {x y : Keyed}, P x → P y → Q (decide (key x < key y)) s → wpAny (model prog w) A (keyLt' κ x.1 y.1) Q E s

def kk (key : Keyed → Int) (xs : Array Keyed) (i : Nat) : Int := match xs[i]? with
  | some p => key p
  | none => 0
def Up (key : Keyed → Int) (xs : Array Keyed) (a b : Nat) : Prop := ∀ i j, a ≤ i → i ≤ j → j < b → kk key xs i ≤ kk key xs j
def Down (key : Keyed → Int) (xs : Array Keyed) (a b : Nat) : Prop := ∀ i j, a ≤ i → i ≤ j → j < b → kk key xs j ≤ kk key xs i
/-- the same items, and outside a..b the same places -/
def Turn (xs ys : Array Keyed) (a b : Nat) : Prop := ys.Perm xs ∧ ∀ k, k < a ∨ b ≤ k → ys[k]? = xs[k]?

theorem kk_congr {key : Keyed → Int} {xs ys : Array Keyed} {i j : Nat} (h : xs[i]? = ys[j]?) : kk key xs i = kk key ys j := by unfold kk; rw [h]
theorem kk_at {key : Keyed → Int} {xs : Array Keyed} {i : Nat} {x : Keyed} (h : xs[i]? = some x) : kk key xs i = key x := by unfold kk; rw [h]

section
variable {key : Keyed → Int} {xs ys zs : Array Keyed} {a b : Nat}
theorem Turn.refl : Turn xs xs a b := ⟨Array.Perm.refl _, fun _ _ => rfl⟩
theorem Turn.trans (h : Turn xs ys a b) (k : Turn ys zs a b) : Turn xs zs a b := ⟨k.1.trans h.1, fun i hi => (k.2 i hi).trans (h.2 i hi)⟩
theorem Turn.size (h : Turn xs ys a b) : ys.size = xs.size := h.1.size_eq
theorem Turn.mono {a' b' : Nat} (h : Turn xs ys a b) (ha : a' ≤ a) (hb : b ≤ b') : Turn xs ys a' b' := ⟨h.1, fun k hk => h.2 k (by omega)⟩
theorem Turn.up {c d : Nat} (h : Turn xs ys a b) (u : Up key xs c d) (hd : d ≤ a) : Up key ys c d := fun i j h1 h2 h3 => by
  rw [kk_congr (h.2 i (by omega)), kk_congr (h.2 j (by omega))]; exact u i j h1 h2 h3
theorem turn_mirror {i j : Nat} (hj : j ≤ xs.size) (ha : a ≤ i) (hb : j ≤ b) : Turn xs (mirror xs i j ((j - i) / 2)) a b :=
  ⟨mirror_perm _ _ _ _, fun k hk => by rw [getElem?_mirror_all hj, if_neg (by omega)]⟩
theorem kk_mirror {i j : Nat} (hj : j ≤ xs.size) (k : Nat) : kk key (mirror xs i j ((j - i) / 2)) k = if i ≤ k ∧ k < j then kk key xs (i + j - 1 - k) else kk key xs k := by
  have e := getElem?_mirror_all (i := i) hj k
  by_cases h1 : i ≤ k ∧ k < j
  · rw [if_pos h1] at e ⊢; exact kk_congr e
  · rw [if_neg h1] at e ⊢; exact kk_congr e
theorem kk_mirror_eq {i j : Nat} (hj : j ≤ xs.size) (he : ∀ k, i ≤ k → k < j → kk key xs k = kk key xs (j - 1)) (k : Nat) : kk key (mirror xs i j ((j - i) / 2)) k = kk key xs k := by
  rw [kk_mirror hj]
  split
  · rw [he _ (by omega) (by omega), he k (by omega) (by omega)]
  · rfl
theorem kk_bubble {src d : Nat} (hs : src < xs.size) (hd : d ≤ src) (k : Nat) :
    kk key (bubble xs src d) k = if k = src - d then kk key xs src else if src - d < k ∧ k ≤ src then kk key xs (k - 1) else kk key xs k := by
  have e := getElem?_bubble hs d hd k
  by_cases h1 : k = src - d
  · rw [if_pos h1] at e ⊢; exact kk_congr e
  · rw [if_neg h1] at e ⊢
    by_cases h2 : src - d < k ∧ k ≤ src
    · rw [if_pos h2] at e ⊢; exact kk_congr e
    · rw [if_neg h2] at e ⊢; exact kk_congr e
theorem turn_bubble {src d : Nat} (hs : src < xs.size) (hd : d ≤ src) (ha : a ≤ src - d) (hb : src < b) : Turn xs (bubble xs src d) a b :=
  ⟨bubble_perm _ _ _, fun k hk => by rw [getElem?_bubble hs d hd, if_neg (by omega), if_neg (by omega)]⟩
end

section
variable {prog : Program} {w : World} {A : Around} {E : Value → Shared → Prop} {s : Shared} {κ : SortKind} {key : Keyed → Int} {P : Keyed → Prop} {st : SortSt}

theorem elem_ {arr : Array Keyed} {i : Nat} {x : Keyed} {Q : Keyed → SortSt → Prop} (hx : arr[i]? = some x) (h : Q x st) : wpS (model prog w) A E s (elem' arr i) Q st := by
  rw [elem'_eq, hx]; exact wpS_pure h
theorem lt_ {x y : Keyed} {Q : Option Bool → SortSt → Prop} (O : Ord prog w A s κ key P) (hk : kindOf st = κ) (px : P x) (py : P y) (h : Q (some (decide (key x < key y))) st) : wpS (model prog w) A E s (lt' x y) Q st := by
  rw [lt'_eq]
  refine wpS_bind (wpS_get ?_)
  rw [hk]
  refine wpS_bind (wpS_lift (wpAny_attempt (O.lt px py ⟨rfl, ?_⟩)))
  exact wpS_pure h
theorem ltAt_ {i j : Nat} {Q : Option Bool → SortSt → Prop} (O : Ord prog w A s κ key P) (hk : kindOf st = κ) (hP : ∀ p ∈ (arrOf st).toList, P p) (hi : i < (arrOf st).size) (hj : j < (arrOf st).size)
    (h : Q (some (decide (kk key (arrOf st) i < kk key (arrOf st) j))) st) : wpS (model prog w) A E s (ltAt' i j) Q st := by
  rw [ltAt'_eq]
  refine wpS_bind (wpS_get ?_)
  have ei := getElem?_pos (arrOf st) i hi
  have ej := getElem?_pos (arrOf st) j hj
  refine wpS_bind (elem_ ei (wpS_bind (elem_ ej (lt_ O hk (hP _ (by simp)) (hP _ (by simp)) ?_))))
  rw [kk_at ei, kk_at ej] at h
  exact h
theorem turnP {xs ys : Array Keyed} {a b : Nat} (h : Turn xs ys a b) (hP : ∀ p ∈ xs.toList, P p) : ∀ p ∈ ys.toList, P p := fun p hp => hP p ((Array.perm_iff_toList_perm.mp h.1).mem_iff.mp hp)
end

section
variable {prog : Program} {w : World} {A : Around} {E : Value → Shared → Prop} {s : Shared} {κ : SortKind} {key : Keyed → Int} {P : Keyed → Prop} {st : SortSt}

/-- a rising run grows from a on -/
theorem asc_ {f : Nat → Option (Option Nat) × Nat → StateT SortSt Sem (ForInStep (Option (Option Nat) × Nat))} {lo a nrem : Nat} {Q : Option (Option Nat) × Nat → SortSt → Prop}
    (O : Ord prog w A s κ key P) (hk : kindOf st = κ) (hP : ∀ p ∈ (arrOf st).toList, P p)
    (hf : ∀ x n R, wpS (model prog w) A E s (ltAt' (lo + n) (lo + n - 1)) (fun o st' => match o with | some true => R (.done (none, n)) st' | some false => R (.yield (none, n + 1)) st' | none => False) st → wpS (model prog w) A E s (f x (none, n)) R st)
    (hn : lo + nrem ≤ (arrOf st).size) (ha : 1 ≤ a) (han : a ≤ nrem) (hs : Up key (arrOf st) lo (lo + a))
    (h : ∀ n, a ≤ n → n ≤ nrem → Up key (arrOf st) lo (lo + n) → (n = nrem ∨ kk key (arrOf st) (lo + n) < kk key (arrOf st) (lo + n - 1)) → Q (none, n) st) :
    wpS (model prog w) A E s (forIn [a:nrem] (none, a) f) Q st := by
  refine wpS_forRange (I := fun x c st' => st' = st ∧ c = (none, x) ∧ Up key (arrOf st) lo (lo + x)) ?step ?fin ⟨rfl, rfl, hs⟩
  case fin =>
    rintro c st' ⟨rfl, rfl, hs'⟩
    rw [show max a nrem = nrem by omega] at hs' ⊢
    exact h nrem han (Nat.le_refl _) hs' (.inl rfl)
  case step =>
    rintro x c st' hax hxn ⟨rfl, rfl, hs'⟩
    refine hf x x _ (ltAt_ O hk hP (by omega) (by omega) ?_)
    by_cases hless : kk key (arrOf st') (lo + x) < kk key (arrOf st') (lo + x - 1)
    · rw [decide_eq_true hless]
      exact h x hax (by omega) hs' (.inr hless)
    · rw [decide_eq_false hless]
      refine ⟨rfl, rfl, fun i j h1 hij hj => ?_⟩
      by_cases hjx : j < lo + x
      · exact hs' i j h1 hij hjx
      · have hj' : j = lo + x := by omega
        subst hj'
        by_cases hi' : i = lo + x
        · rw [hi']; exact Int.le_refl _
        · exact Int.le_trans (hs' i (lo + x - 1) h1 (by omega) (by omega)) (Int.not_lt.mp hless)

/-- a falling run grows from n on; equal neighbours are turned -/
theorem desc_ {f : Nat → Option (Option Nat) × Nat × Nat → StateT SortSt Sem (ForInStep (Option (Option Nat) × Nat × Nat))} {lo n nrem : Nat} {Q : Option (Option Nat) × Nat × Nat → SortSt → Prop}
    (O : Ord prog w A s κ key P) (hk : kindOf st = κ) (hP : ∀ p ∈ (arrOf st).toList, P p)
    (hf : ∀ x n neq R st, wpS (model prog w) A E s (ltAt' (lo + n) (lo + n - 1)) (fun o st' => match o with
      | some true => if neq > 0 then R (.yield (none, n + 1, 0)) (setArr st' (mirror (arrOf st') (lo + n - (neq + 1)) (lo + n) ((lo + n - (lo + n - (neq + 1))) / 2))) else R (.yield (none, n + 1, 0)) st'
      | some false => wpS (model prog w) A E s (ltAt' (lo + n - 1) (lo + n)) (fun o st' => match o with | some true => R (.done (none, n, neq)) st' | some false => R (.yield (none, n + 1, neq + 1)) st' | none => False) st'
      | none => False) st → wpS (model prog w) A E s (f x (none, n, neq)) R st)
    (hn : lo + nrem ≤ (arrOf st).size) (h1 : 1 ≤ n) (hnn : n ≤ nrem) (hs : Down key (arrOf st) lo (lo + n))
    (h : ∀ m neq ys, Turn (arrOf st) ys lo (lo + nrem) → n ≤ m → m ≤ nrem → Down key ys lo (lo + m) → neq + 1 ≤ m → (∀ i, lo + m - (neq + 1) ≤ i → i < lo + m → kk key ys i = kk key ys (lo + m - 1)) → Q (none, m, neq) (setArr st ys)) :
    wpS (model prog w) A E s (forIn [n:nrem] (none, n, 0) f) Q st := by
  refine wpS_forRange (I := fun x c st' => ∃ neq ys, c = (none, x, neq) ∧ st' = setArr st ys ∧ Turn (arrOf st) ys lo (lo + nrem) ∧ Down key ys lo (lo + x) ∧ neq + 1 ≤ x ∧
      (∀ i, lo + x - (neq + 1) ≤ i → i < lo + x → kk key ys i = kk key ys (lo + x - 1))) ?step ?fin ⟨0, arrOf st, rfl, rfl, .refl, hs, by omega, fun i h1 h2 => by congr 1; omega⟩
  case fin =>
    rintro c st' ⟨neq, ys, rfl, rfl, T, hs', hq, he⟩
    rw [show max n nrem = nrem by omega] at hs' hq he ⊢
    exact h nrem neq ys T hnn (Nat.le_refl _) hs' hq he
  case step =>
    rintro x c st' hax hxn ⟨neq, ys, rfl, rfl, T, hs', hq, he⟩
    have hz := T.size
    have hsz : lo + x ≤ ys.size := by omega
    have hP' := turnP T hP
    refine hf x x neq _ _ (ltAt_ (st := setArr st ys) O hk hP' (show lo + x < ys.size by omega) (show lo + x - 1 < ys.size by omega) ?_)
    show match some (decide (kk key ys (lo + x) < kk key ys (lo + x - 1))) with | some true => _ | some false => _ | none => _
    by_cases hless : kk key ys (lo + x) < kk key ys (lo + x - 1)
    · rw [decide_eq_true hless]
      dsimp only
      have step1 : ∀ zs : Array Keyed, (∀ k, kk key zs k = kk key ys k) → Down key zs lo (lo + (x + 1)) := by
        intro zs hk i j h1 hij hj
        rw [hk, hk]
        by_cases hjx : j < lo + x
        · exact hs' i j h1 hij hjx
        · have hj' : j = lo + x := by omega
          subst hj'
          by_cases hi' : i = lo + x
          · rw [hi']; exact Int.le_refl _
          · exact Int.le_trans (Int.le_of_lt hless) (hs' i (lo + x - 1) h1 (by omega) (by omega))
      split
      · exact ⟨0, _, rfl, rfl, T.trans (turn_mirror (by omega) (by omega) (by omega)), step1 _ (kk_mirror_eq hsz he), by omega, fun i h1 h2 => by congr 1; omega⟩
      · exact ⟨0, ys, rfl, rfl, T, step1 _ (fun _ => rfl), by omega, fun i h1 h2 => by congr 1; omega⟩
    · rw [decide_eq_false hless]
      dsimp only
      refine ltAt_ (st := setArr st ys) O hk hP' (show lo + x - 1 < ys.size by omega) (show lo + x < ys.size by omega) ?_
      show match some (decide (kk key ys (lo + x - 1) < kk key ys (lo + x))) with | some true => _ | some false => _ | none => _
      by_cases hl : kk key ys (lo + x - 1) < kk key ys (lo + x)
      · rw [decide_eq_true hl]
        exact h x neq ys T hax (by omega) hs' hq he
      · rw [decide_eq_false hl]
        have heqx : kk key ys (lo + x) = kk key ys (lo + x - 1) := by omega
        refine ⟨neq + 1, ys, rfl, rfl, T, fun i j h1 hij hj => ?_, by omega, fun i h1 h2 => ?_⟩
        · by_cases hjx : j < lo + x
          · exact hs' i j h1 hij hjx
          · have hj' : j = lo + x := by omega
            subst hj'
            by_cases hi' : i = lo + x
            · rw [hi']; exact Int.le_refl _
            · rw [heqx]; exact hs' i (lo + x - 1) h1 (by omega) (by omega)
        · rw [show lo + (x + 1) - 1 = lo + x by omega]
          by_cases hix : i = lo + x
          · rw [hix]
          · rw [heqx]; exact he i (by omega) (by omega)

theorem rev_ {i j : Nat} {Q : Unit → SortSt → Prop} (h : Q () (setArr st (mirror (arrOf st) i j ((j - i) / 2)))) : wpS (model prog w) A E s (reverseSlice' i j) Q st := by
  rw [reverseSlice'_eq]; exact wpS_modify h

theorem rises {ys : Array Keyed} {lo m : Nat} (D : Down key ys lo (lo + m)) (hz : lo + m ≤ ys.size) : Up key (mirror ys lo (lo + m) ((lo + m - lo) / 2)) lo (lo + m) := by
  intro i j h1 h2 h3
  rw [kk_mirror hz, kk_mirror hz, if_pos (by omega), if_pos (by omega)]
  exact D _ _ (by omega) (by omega) (by omega)

theorem countRun_ {lo nrem : Nat} {Q : Option Nat → SortSt → Prop} (O : Ord prog w A s κ key P) (hk : kindOf st = κ) (hP : ∀ p ∈ (arrOf st).toList, P p) (hn : lo + nrem ≤ (arrOf st).size) (h1 : 1 ≤ nrem)
    (h : ∀ m ys, Turn (arrOf st) ys lo (lo + nrem) → 1 ≤ m → m ≤ nrem → Up key ys lo (lo + m) → Q (some m) (setArr st ys)) :
    wpS (model prog w) A E s (countRun' lo nrem) Q st := by
  rw [countRun'_eq]
  refine wpS_bind (asc_ O hk hP (fun x n R h' => ?_) hn (Nat.le_refl 1) h1 (fun i j h1 h2 h3 => by rw [show i = j by omega]; exact Int.le_refl _) fun n hn1 hn2 hsn hor => ?_)
  · dsimp only
    refine wpS_bind (wpS_mono h' fun o st' h'' => ?_)
    match o, h'' with
    | some true, h'' => exact wpS_pure h''
    | some false, h'' => exact wpS_pure h''
    | none, h'' => exact h''.elim
  dsimp only
  by_cases hnn : n = nrem
  · rw [if_pos (by simpa using hnn)]
    exact wpS_pure (h n (arrOf st) .refl hn1 hn2 hsn)
  rw [if_neg (by simpa using hnn)]
  have hlt : kk key (arrOf st) (lo + n) < kk key (arrOf st) (lo + n - 1) := hor.resolve_left hnn
  by_cases hgt : n > 1
  · rw [if_pos hgt]
    refine wpS_bind (ltAt_ O hk hP (by omega) (by omega) ?_)
    by_cases hrose : kk key (arrOf st) lo < kk key (arrOf st) (lo + n - 1)
    · rw [decide_eq_true hrose]
      exact wpS_pure (h n (arrOf st) .refl hn1 hn2 hsn)
    rw [decide_eq_false hrose]
    dsimp only
    rw [if_neg (by decide)]
    have hsz : lo + n ≤ (arrOf st).size := by omega
    have hall : ∀ k, lo ≤ k → k < lo + n → kk key (arrOf st) k = kk key (arrOf st) (lo + n - 1) := by
      intro k hk1 hk
      have a1 := hsn lo k (Nat.le_refl _) hk1 hk
      have a2 := hsn k (lo + n - 1) hk1 (by omega) (by omega)
      omega
    refine wpS_bind (rev_ ?_)
    have T₁ : Turn (arrOf st) (mirror (arrOf st) lo (lo + n) ((lo + n - lo) / 2)) lo (lo + nrem) := turn_mirror hsz (Nat.le_refl _) (by omega)
    have D₁ : Down key (mirror (arrOf st) lo (lo + n) ((lo + n - lo) / 2)) lo (lo + (n + 1)) := by
      intro i j h1 hij hj
      rw [kk_mirror_eq hsz hall, kk_mirror_eq hsz hall]
      by_cases hjn : j < lo + n
      · rw [hall i h1 (by omega), hall j (by omega) hjn]; exact Int.le_refl _
      · have hj' : j = lo + n := by omega
        subst hj'
        by_cases hi' : i = lo + n
        · rw [hi']; exact Int.le_refl _
        · rw [hall i h1 (by omega)]; exact Int.le_of_lt hlt
    generalize mirror (arrOf st) lo (lo + n) ((lo + n - lo) / 2) = ys₁ at *
    refine wpS_bind (wpS_lift (wpAny_rule ⟨rfl, ?_⟩))
    refine wpS_bind (desc_ (st := setArr st ys₁) O hk (turnP T₁ hP) (fun x n neq R st₀ h' => ?_) (by show lo + nrem ≤ ys₁.size; rw [T₁.size]; exact hn) (show 1 ≤ n + 1 by omega) (by omega) D₁ fun m neq ys₂ T₂' hm1 hm2 D₂ hq he => ?_)
    · dsimp only
      refine wpS_bind (wpS_mono h' fun o st' h'' => ?_)
      match o, h'' with
      | some true, h'' =>
        dsimp only at h'' ⊢
        rw [if_pos rfl]
        by_cases hq : neq > 0
        · rw [if_pos hq] at h'' ⊢
          exact wpS_bind (rev_ (wpS_pure h''))
        · rw [if_neg hq] at h'' ⊢
          exact wpS_pure h''
      | some false, h'' =>
        dsimp only at h'' ⊢
        rw [if_neg (by decide)]
        refine wpS_bind (wpS_mono h'' fun o st' h₃ => ?_)
        match o, h₃ with
        | some true, h₃ => exact wpS_pure h₃
        | some false, h₃ => exact wpS_pure h₃
        | none, h₃ => exact h₃.elim
      | none, h'' => exact h''.elim
    dsimp only
    have T₂ : Turn (arrOf st) ys₂ lo (lo + nrem) := T₁.trans T₂'
    have hz₂ : lo + m ≤ ys₂.size := by rw [T₂.size]; omega
    by_cases hneq : neq > 0
    · rw [if_pos hneq]
      refine wpS_bind (rev_ ?_)
      have T₃ : Turn (arrOf st) (mirror ys₂ (lo + m - (neq + 1)) (lo + m) ((lo + m - (lo + m - (neq + 1))) / 2)) lo (lo + nrem) := T₂.trans (turn_mirror (by omega) (by omega) (by omega))
      have D₃ : Down key (mirror ys₂ (lo + m - (neq + 1)) (lo + m) ((lo + m - (lo + m - (neq + 1))) / 2)) lo (lo + m) := fun i j h1 h2 h3 => by
        rw [kk_mirror_eq hz₂ he, kk_mirror_eq hz₂ he]; exact D₂ i j h1 h2 h3
      have hz₃ : lo + m ≤ (mirror ys₂ (lo + m - (neq + 1)) (lo + m) ((lo + m - (lo + m - (neq + 1))) / 2)).size := by rw [mirror_size]; exact hz₂
      show wpS _ _ _ _ _ _ (setArr st (mirror ys₂ (lo + m - (neq + 1)) (lo + m) ((lo + m - (lo + m - (neq + 1))) / 2)))
      generalize mirror ys₂ (lo + m - (neq + 1)) (lo + m) ((lo + m - (lo + m - (neq + 1))) / 2) = ys₃ at *
      refine wpS_bind (rev_ ?_)
      refine wpS_bind (asc_ (st := setArr st (mirror ys₃ lo (lo + m) ((lo + m - lo) / 2))) O hk (turnP (T₃.trans (turn_mirror (by omega) (Nat.le_refl _) (by omega))) hP) (fun x n R h' => ?_) (by show lo + nrem ≤ (mirror ys₃ lo (lo + m) ((lo + m - lo) / 2)).size; rw [mirror_size, T₃.size]; exact hn) (show 1 ≤ m by omega) hm2 (rises D₃ hz₃) fun n' hn1 hn2 hsn _ => ?_)
      · dsimp only
        refine wpS_bind (wpS_mono h' fun o st' h'' => ?_)
        match o, h'' with
        | some true, h'' => exact wpS_pure h''
        | some false, h'' => exact wpS_pure h''
        | none, h'' => exact h''.elim
      exact wpS_pure (h n' _ (T₃.trans (turn_mirror (by omega) (Nat.le_refl _) (by omega))) (by omega) hn2 hsn)
    · rw [if_neg hneq]
      refine wpS_bind (rev_ ?_)
      refine wpS_bind (asc_ (st := setArr st (mirror ys₂ lo (lo + m) ((lo + m - lo) / 2))) O hk (turnP (T₂.trans (turn_mirror (by omega) (Nat.le_refl _) (by omega))) hP) (fun x n R h' => ?_) (by show lo + nrem ≤ (mirror ys₂ lo (lo + m) ((lo + m - lo) / 2)).size; rw [mirror_size, T₂.size]; exact hn) (show 1 ≤ m by omega) hm2 (rises D₂ hz₂) fun n' hn1 hn2 hsn _ => ?_)
      · dsimp only
        refine wpS_bind (wpS_mono h' fun o st' h'' => ?_)
        match o, h'' with
        | some true, h'' => exact wpS_pure h''
        | some false, h'' => exact wpS_pure h''
        | none, h'' => exact h''.elim
      exact wpS_pure (h n' _ (T₂.trans (turn_mirror (by omega) (Nat.le_refl _) (by omega))) (by omega) hn2 hsn)
  · rw [if_neg hgt]
    have hn1' : n = 1 := by omega
    have T₁ : Turn (arrOf st) (arrOf st) lo (lo + nrem) := .refl
    have D₁ : Down key (arrOf st) lo (lo + (n + 1)) := by
      intro i j h1 hij hj
      by_cases hi' : i = j
      · rw [hi']; exact Int.le_refl _
      · have hi0 : i = lo := by omega
        have hj1 : j = lo + n := by omega
        subst hi0; subst hj1
        rw [hn1'] at hlt ⊢
        exact Int.le_of_lt hlt
    have hex : ∃ ys₁, ys₁ = arrOf st ∧ Turn (arrOf st) ys₁ lo (lo + nrem) ∧ Down key ys₁ lo (lo + (n + 1)) := ⟨_, rfl, T₁, D₁⟩
    clear T₁ D₁
    obtain ⟨ys₁, hys, T₁, D₁⟩ := hex
    show wpS _ _ _ _ _ _ (setArr st (arrOf st))
    rw [← hys]
    refine wpS_bind (wpS_lift (wpAny_rule ⟨rfl, ?_⟩))
    refine wpS_bind (desc_ (st := setArr st ys₁) O hk (turnP T₁ hP) (fun x n neq R st₀ h' => ?_) (by show lo + nrem ≤ ys₁.size; rw [T₁.size]; exact hn) (show 1 ≤ n + 1 by omega) (by omega) D₁ fun m neq ys₂ T₂' hm1 hm2 D₂ hq he => ?_)
    · dsimp only
      refine wpS_bind (wpS_mono h' fun o st' h'' => ?_)
      match o, h'' with
      | some true, h'' =>
        dsimp only at h'' ⊢
        rw [if_pos rfl]
        by_cases hq : neq > 0
        · rw [if_pos hq] at h'' ⊢
          exact wpS_bind (rev_ (wpS_pure h''))
        · rw [if_neg hq] at h'' ⊢
          exact wpS_pure h''
      | some false, h'' =>
        dsimp only at h'' ⊢
        rw [if_neg (by decide)]
        refine wpS_bind (wpS_mono h'' fun o st' h₃ => ?_)
        match o, h₃ with
        | some true, h₃ => exact wpS_pure h₃
        | some false, h₃ => exact wpS_pure h₃
        | none, h₃ => exact h₃.elim
      | none, h'' => exact h''.elim
    dsimp only
    have T₂ : Turn (arrOf st) ys₂ lo (lo + nrem) := T₁.trans T₂'
    have hz₂ : lo + m ≤ ys₂.size := by rw [T₂.size]; omega
    by_cases hneq : neq > 0
    · rw [if_pos hneq]
      refine wpS_bind (rev_ ?_)
      have T₃ : Turn (arrOf st) (mirror ys₂ (lo + m - (neq + 1)) (lo + m) ((lo + m - (lo + m - (neq + 1))) / 2)) lo (lo + nrem) := T₂.trans (turn_mirror (by omega) (by omega) (by omega))
      have D₃ : Down key (mirror ys₂ (lo + m - (neq + 1)) (lo + m) ((lo + m - (lo + m - (neq + 1))) / 2)) lo (lo + m) := fun i j h1 h2 h3 => by
        rw [kk_mirror_eq hz₂ he, kk_mirror_eq hz₂ he]; exact D₂ i j h1 h2 h3
      have hz₃ : lo + m ≤ (mirror ys₂ (lo + m - (neq + 1)) (lo + m) ((lo + m - (lo + m - (neq + 1))) / 2)).size := by rw [mirror_size]; exact hz₂
      show wpS _ _ _ _ _ _ (setArr st (mirror ys₂ (lo + m - (neq + 1)) (lo + m) ((lo + m - (lo + m - (neq + 1))) / 2)))
      generalize mirror ys₂ (lo + m - (neq + 1)) (lo + m) ((lo + m - (lo + m - (neq + 1))) / 2) = ys₃ at *
      refine wpS_bind (rev_ ?_)
      refine wpS_bind (asc_ (st := setArr st (mirror ys₃ lo (lo + m) ((lo + m - lo) / 2))) O hk (turnP (T₃.trans (turn_mirror (by omega) (Nat.le_refl _) (by omega))) hP) (fun x n R h' => ?_) (by show lo + nrem ≤ (mirror ys₃ lo (lo + m) ((lo + m - lo) / 2)).size; rw [mirror_size, T₃.size]; exact hn) (show 1 ≤ m by omega) hm2 (rises D₃ hz₃) fun n' hn1 hn2 hsn _ => ?_)
      · dsimp only
        refine wpS_bind (wpS_mono h' fun o st' h'' => ?_)
        match o, h'' with
        | some true, h'' => exact wpS_pure h''
        | some false, h'' => exact wpS_pure h''
        | none, h'' => exact h''.elim
      exact wpS_pure (h n' _ (T₃.trans (turn_mirror (by omega) (Nat.le_refl _) (by omega))) (by omega) hn2 hsn)
    · rw [if_neg hneq]
      refine wpS_bind (rev_ ?_)
      refine wpS_bind (asc_ (st := setArr st (mirror ys₂ lo (lo + m) ((lo + m - lo) / 2))) O hk (turnP (T₂.trans (turn_mirror (by omega) (Nat.le_refl _) (by omega))) hP) (fun x n R h' => ?_) (by show lo + nrem ≤ (mirror ys₂ lo (lo + m) ((lo + m - lo) / 2)).size; rw [mirror_size, T₂.size]; exact hn) (show 1 ≤ m by omega) hm2 (rises D₂ hz₂) fun n' hn1 hn2 hsn _ => ?_)
      · dsimp only
        refine wpS_bind (wpS_mono h' fun o st' h'' => ?_)
        match o, h'' with
        | some true, h'' => exact wpS_pure h''
        | some false, h'' => exact wpS_pure h''
        | none, h'' => exact h''.elim
      exact wpS_pure (h n' _ (T₂.trans (turn_mirror (by omega) (Nat.le_refl _) (by omega))) (by omega) hn2 hsn)
end

section
variable {prog : Program} {w : World} {A : Around} {E : Value → Shared → Prop} {s : Shared} {κ : SortKind} {key : Keyed → Int} {P : Keyed → Prop} {st : SortSt}

theorem binarySort_ {lo n ok : Nat} {Q : Bool → SortSt → Prop} (O : Ord prog w A s κ key P) (hk : kindOf st = κ) (hP : ∀ p ∈ (arrOf st).toList, P p) (hn : lo + n ≤ (arrOf st).size) (hok : ok ≤ n) (hs : Up key (arrOf st) lo (lo + ok))
    (h : ∀ ys, Turn (arrOf st) ys lo (lo + n) → Up key ys lo (lo + n) → Q true (setArr st ys)) : wpS (model prog w) A E s (binarySort' lo n ok) Q st := by
  rw [binarySort'_eq]
  refine wpS_bind (wpS_mono (wpS_forRange (I := fun k c st' => c = (none, ()) ∧ ∃ ys, st' = setArr st ys ∧ Turn (arrOf st) ys lo (lo + n) ∧ Up key ys lo (lo + min k n))
    (Q := fun c st' => c = (none, ()) ∧ ∃ ys, st' = setArr st ys ∧ Turn (arrOf st) ys lo (lo + n) ∧ Up key ys lo (lo + n)) ?step ?fin ?init) ?post)
  case post =>
    rintro c st' ⟨rfl, ys, rfl, T, hs'⟩
    exact wpS_pure (h ys T hs')
  case init =>
    refine ⟨rfl, arrOf st, rfl, .refl, fun i j h1 hij hj => ?_⟩
    by_cases h0 : ok = 0
    · rw [show i = j by omega]; exact Int.le_refl _
    · exact hs i j h1 hij (by omega)
  case fin =>
    rintro c st' ⟨hc, ys, rfl, T, hs'⟩
    refine ⟨hc, ys, rfl, T, ?_⟩
    rwa [show min (max (max ok 1) n) n = n by omega] at hs'
  case step =>
    rintro k c st' hak hkn ⟨rfl, ys, rfl, T, hs'⟩
    rw [show min k n = k by omega] at hs'
    have hz := T.size
    have hP' := turnP T hP
    refine wpS_bind (wpS_mono (wpS_forRange (I := fun x c st'' => st'' = setArr st ys ∧ ∃ l r, c = (none, l, r) ∧ l ≤ r ∧ r ≤ k ∧ r - l ≤ k - x ∧
        (∀ i, i < l → kk key ys (lo + i) ≤ kk key ys (lo + k)) ∧ (∀ i, r ≤ i → i < k → kk key ys (lo + k) < kk key ys (lo + i)))
      (Q := fun c st'' => st'' = setArr st ys ∧ ∃ l r, c = (none, l, r) ∧ l ≤ k ∧
        (∀ i, i < l → kk key ys (lo + i) ≤ kk key ys (lo + k)) ∧ (∀ i, l ≤ i → i < k → kk key ys (lo + k) < kk key ys (lo + i))) ?istep ?ifin ?iinit) ?ipost)
    case iinit => exact ⟨rfl, 0, k, rfl, by omega, by omega, by omega, fun i hi => by omega, fun i h1 h2 => by omega⟩
    case ifin =>
      rintro c st'' ⟨rfl, l, r, rfl, hlr, hrk, hm, hlo, hhi⟩
      have : l = r := by omega
      subst this
      exact ⟨rfl, l, l, rfl, hrk, hlo, hhi⟩
    case istep =>
      rintro x c st'' _ hxk ⟨rfl, l, r, rfl, hlr, hrk, hm, hlo, hhi⟩
      dsimp only
      by_cases hge : l ≥ r
      · rw [if_pos hge]
        have : l = r := by omega
        subst this
        exact wpS_pure ⟨rfl, l, l, rfl, hrk, hlo, hhi⟩
      · rw [if_neg hge]
        refine wpS_bind (ltAt_ (st := setArr st ys) O hk hP' (show lo + k < ys.size by omega) (show lo + (l + r) / 2 < ys.size by omega) ?_)
        by_cases hless : kk key ys (lo + k) < kk key ys (lo + (l + r) / 2)
        · simp only [hless, decide_true, if_true]
          refine wpS_pure ⟨rfl, l, (l + r) / 2, rfl, by omega, by omega, by omega, hlo, fun i h1 h2 => ?_⟩
          exact Int.lt_of_lt_of_le hless (hs' _ _ (by omega) (by omega) (by omega))
        · simp only [hless, decide_false, Bool.false_eq_true, if_false]
          refine wpS_pure ⟨rfl, (l + r) / 2 + 1, r, rfl, by omega, by omega, by omega, fun i h1 => ?_, hhi⟩
          exact Int.le_trans (hs' (lo + i) (lo + (l + r) / 2) (by omega) (by omega) (by omega)) (Int.not_lt.mp hless)
    case ipost =>
      rintro c st'' ⟨rfl, l, r, rfl, hlk, hlo, hhi⟩
      dsimp only
      rw [moveDown'_eq]
      have hks : lo + k < ys.size := by omega
      refine wpS_bind (wpS_modify (wpS_pure ⟨rfl, bubble ys (lo + k) (lo + k - (lo + l)), rfl, T.trans (turn_bubble hks (by omega) (by omega) (by omega)), ?_⟩))
      rw [show min (k + 1) n = k + 1 by omega]
      intro i j h1 hij hj
      rw [kk_bubble hks (by omega), kk_bubble hks (by omega), show lo + k - (lo + k - (lo + l)) = lo + l by omega]
      have lo' : ∀ i, lo ≤ i → i < lo + l → kk key ys i ≤ kk key ys (lo + k) := fun i h1 h2 => by have := hlo (i - lo) (by omega); rwa [show lo + (i - lo) = i by omega] at this
      have hi' : ∀ i, lo + l ≤ i → i < lo + k → kk key ys (lo + k) < kk key ys i := fun i h1 h2 => by have := hhi (i - lo) (by omega) (by omega); rwa [show lo + (i - lo) = i by omega] at this
      repeat' split
      all_goals first
        | (exfalso; omega)
        | exact Int.le_refl _
        | exact lo' _ (by omega) (by omega)
        | exact Int.le_of_lt (hi' _ (by omega) (by omega))
        | exact hs' _ _ (by omega) (by omega) (by omega)

end

section
variable {prog : Program} {w : World} {A : Around} {E : Value → Shared → Prop} {s : Shared} {κ : SortKind} {key : Keyed → Int} {P : Keyed → Prop} {st : SortSt}

/-- the sort of fewer than 64 items -/
theorem sortRuns_ {Q : Unit → SortSt → Prop} {a₀ : Array Keyed} (O : Ord prog w A s κ key P) (hk : kindOf st = κ) (hf : failedOf st = none) (hP : ∀ p ∈ a₀.toList, P p) (ha : arrOf st = a₀) (hpe : pendingOf st = #[]) (h0 : 0 < a₀.size) (h64 : a₀.size < 64)
    (h : ∀ st' : SortSt, (arrOf st').Perm a₀ → failedOf st' = none → Up key (arrOf st') 0 a₀.size → Q () st') : wpS (model prog w) A E s sortRuns' Q st := by
  rw [sortRuns'_eq]
  refine wpS_bind (wpS_get ?_)
  have hsz : (arrOf st).size = a₀.size := by rw [ha]
  have hmr : minRun' a₀.size a₀.size 0 = a₀.size := by
    obtain ⟨f, hf⟩ : ∃ f, a₀.size = f + 1 := ⟨a₀.size - 1, by omega⟩
    have : minRun' (f + 1) a₀.size 0 = a₀.size := by rw [minRun'_succ, if_pos h64]; rfl
    rwa [← hf] at this
  simp only [hsz, hmr]
  refine wpS_bind (wpS_mono (wpS_forRange
    (I := fun x c (st' : SortSt) => kindOf st' = κ ∧ failedOf st' = none ∧ (arrOf st').Perm a₀ ∧ ((x = 0 ∧ c = (none, 0) ∧ pendingOf st' = #[]) ∨ (1 ≤ x ∧ c = (none, a₀.size) ∧ pendingOf st' = #[(0, a₀.size, 0)] ∧ Up key (arrOf st') 0 a₀.size)))
    (Q := fun c (st' : SortSt) => c = (none, a₀.size) ∧ failedOf st' = none ∧ (arrOf st').Perm a₀ ∧ pendingOf st' = #[(0, a₀.size, 0)] ∧ Up key (arrOf st') 0 a₀.size) ?step ?fin ⟨hk, hf, by rw [ha], .inl ⟨rfl, rfl, hpe⟩⟩) ?post)
  case fin =>
    rintro c st' ⟨_, h1, h2, ⟨hx, _, _⟩ | ⟨_, hc, hD, hU⟩⟩
    · omega
    · exact ⟨hc, h1, h2, hD, hU⟩
  case step =>
    rintro x c st₁ _ hx ⟨hk₁, hf₁, pm₁, ⟨rfl, rfl, hp₁⟩ | ⟨hx1, rfl, hD, hU⟩⟩
    · dsimp only
      rw [if_neg (by omega)]
      simp only [Nat.sub_zero, Nat.min_self, Nat.zero_add]
      have sz₁ := pm₁.size_eq
      have hP₁ : ∀ p ∈ (arrOf st₁).toList, P p := fun p hp => hP p ((Array.perm_iff_toList_perm.mp pm₁).mem_iff.mp hp)
      refine wpS_bind (countRun_ O hk₁ hP₁ (by omega) (by omega) fun m ys T hm1 hm2 U => ?_)
      dsimp only
      have hP₂ := turnP T hP₁
      have sz₂ := T.size
      rw [Nat.zero_add] at U
      have hb : (pendingOf st₁).back? = none := by rw [hp₁]; rfl
      by_cases hlt : m < a₀.size
      · rw [if_pos hlt]
        refine wpS_bind (wpS_lift (wpAny_rule ⟨rfl, ?_⟩))
        refine wpS_bind (binarySort_ (st := setArr st₁ ys) O hk₁ hP₂ (show 0 + a₀.size ≤ ys.size by omega) hm2 (by rw [Nat.zero_add]; exact U) fun zs T' U₂ => ?_)
        simp only [Bool.not_true, Bool.false_eq_true, if_false]
        refine wpS_bind (wpS_get ?_)
        have hb' : (pendingOf (setArr (setArr st₁ ys) zs)).back? = none := hb
        rw [hb']
        dsimp only
        refine wpS_bind (wpS_modify (wpS_pure ⟨hk₁, hf₁, (Array.Perm.trans T'.1 T.1).trans pm₁, .inr ⟨by omega, rfl, ?_, ?_⟩⟩))
        · show (pendingOf st₁).push _ = _; rw [hp₁]; rfl
        · rw [Nat.zero_add] at U₂; exact U₂
      · rw [if_neg hlt]
        have hm : m = a₀.size := by omega
        subst hm
        refine wpS_bind (wpS_get ?_)
        have hb' : (pendingOf (setArr st₁ ys)).back? = none := hb
        rw [hb']
        dsimp only
        refine wpS_bind (wpS_modify (wpS_pure ⟨hk₁, hf₁, T.1.trans pm₁, .inr ⟨by omega, rfl, ?_, U⟩⟩))
        show (pendingOf st₁).push _ = _; rw [hp₁]; rfl
    · dsimp only
      rw [if_pos (Nat.le_refl _)]
      exact wpS_pure ⟨rfl, hf₁, pm₁, hD, hU⟩
  case post =>
    rintro c st₁ ⟨rfl, hf₁, pm₁, hD, hU⟩
    dsimp only
    refine wpS_bind (wpS_mono (wpS_forRange (I := fun _ c (st' : SortSt) => c = (none, ()) ∧ st' = st₁) (Q := fun c (st' : SortSt) => c = (none, ()) ∧ st' = st₁) ?estep (fun _ _ hh => hh) ⟨rfl, rfl⟩) ?epost)
    case estep =>
      rintro x c st₃ _ hx ⟨rfl, rfl⟩
      refine wpS_bind (wpS_get ?_)
      rw [if_pos (by rw [hD]; simp)]
      exact wpS_pure ⟨rfl, rfl⟩
    case epost =>
      rintro c st₃ ⟨rfl, rfl⟩
      dsimp only
      exact wpS_pure (h _ pm₁ hf₁ hU)

theorem ris_up {xs : Array Keyed} (h : Up key xs 0 xs.size) : xs.toList.Pairwise fun a b => key a ≤ key b := by
  refine List.pairwise_iff_getElem.mpr fun i j hi hj hij => ?_
  have hi' : i < xs.size := by simpa using hi
  have hj' : j < xs.size := by simpa using hj
  have := h i j (by omega) (by omega) hj'
  rw [kk_at (getElem?_pos xs i hi'), kk_at (getElem?_pos xs j hj')] at this
  simpa using this
end

section
variable {prog : Program} {w : World} {A : Around} {E : Value → Shared → Prop} {s : Shared} {κ : SortKind} {key : Keyed → Int} {P : Keyed → Prop}

theorem sortOut {vs : List Value} {xs : Array Keyed} (hp : xs.Perm (pairsOf vs)) (u : Up key xs 0 (pairsOf vs).size) :
    (xs.map (·.2)).toList.Perm vs ∧ (xs.map (·.2)).toList.Pairwise fun x y => key (x, x) ≤ key (y, y) := by
  have hl : xs.toList.Perm (vs.zip vs) := by rw [← pairsOf_toList]; exact Array.perm_iff_toList_perm.mp hp
  have hmem : ∀ p, p ∈ xs.toList → p.1 = p.2 ∧ p.1 ∈ vs := fun p hp' => mem_zip_self (hl.mem_iff.mp hp')
  refine ⟨?_, ?_⟩
  · rw [Array.toList_map]
    have := hl.map (·.2)
    rwa [List.map_snd_zip (Nat.le_refl _)] at this
  · have r := ris_up (key := key) (xs := xs) (by rw [hp.size_eq]; exact u)
    rw [Array.toList_map, List.pairwise_map]
    refine List.Pairwise.imp_of_mem (fun {a b} ha hb e => ?_) r
    have ea : (a.2, a.2) = a := Prod.ext (hmem a ha).1.symm rfl
    have eb : (b.2, b.2) = b := Prod.ext (hmem b hb).1.symm rfl
    rw [ea, eb]; exact e

theorem listSort {a : Addr} {vs : List Value} {n : Nat} {Pp : PySem.Fin → Shared → Prop} (ho : s.heap.get? a = some (listOf vs.toArray n)) (hz : vs.length < 64)
    (hkind : 2 ≤ vs.length → ∀ s', ExL a s s' → wpAny (model prog w) A (keyKind' vs.toArray) (fun κ' s'' => κ' = κ ∧ s'' = s') No s')
    (hord : ∀ s', ExL a s s' → Ord prog w A s' κ key P) (hP : ∀ v ∈ vs, P (v, v))
    (h : ∀ s' (out : List Value) m, ExL a s s' → s'.heap.get? a = some (listOf out.toArray m) → out.Perm vs → (out.Pairwise fun x y => key (x, x) ≤ key (y, y)) → Pp (.done (.ret .none)) s') :
    wpAny (model prog w) A (Builtin.«list.sort» ⟨[.ref a], []⟩) Pp E s := by
  rw [list_sort_plain]
  have ha : a < s.heap.objs.size := Heap.lt_size ho
  refine wpAny_bind (listItems_at ho rfl ?_)
  refine wpAny_bind (listUpdate_at ho rfl ?_ (by rw [List.size_toArray, sizeLine_eq]; omega) (Nat.zero_le _))
  obtain ⟨e1, ho1⟩ : ∃ e1, (s.heap.update a (Obj.mapSeq fun _ => #[])).get? a = some (seqObj "list" #[] e1) := ⟨_, get?_update_seq ho (fun _ => #[])⟩
  refine wpAny_bind (seqEpoch_at ho1 rfl ?_)
  refine wpAny_bind (wpAny_newTuple ?_ (by show vs.length ≤ _; rw [sizeLine_eq]; omega))
  refine wpAny_bind (wpAny_newList ?_ (Nat.zero_le _))
  refine wpAny_holding ?_
  show wpAny (model prog w) A _ Pp E { s with heap := ((s.heap.update a (Obj.mapSeq fun _ => #[])).push (seqObj "tuple" vs.toArray 0)).push (seqObj "list" #[] 0) }
  have ho6 : (((s.heap.update a (Obj.mapSeq fun _ => #[])).push (seqObj "tuple" vs.toArray 0)).push (seqObj "list" #[] 0)).get? a = some (seqObj "list" #[] e1) := Heap.get?_push_of_some _ (Heap.get?_push_of_some _ ho1)
  have x6 : ExL a s { s with heap := ((s.heap.update a (Obj.mapSeq fun _ => #[])).push (seqObj "tuple" vs.toArray 0)).push (seqObj "list" #[] 0) } :=
    ⟨fun b o nb e => Heap.get?_push_of_some _ (Heap.get?_push_of_some _ ((Heap.get?_update_other _ _ (Ne.symm nb)).trans e)), rfl, rfl⟩
  generalize ((s.heap.update a (Obj.mapSeq fun _ => #[])).push (seqObj "tuple" vs.toArray 0)).push (seqObj "list" #[] 0) = h6 at *
  dsimp only
  have fin : ∀ st' : SortSt, (arrOf st').Perm (pairsOf vs) → Up key (arrOf st') 0 (pairsOf vs).size → Pp (.done (.ret .none)) { s with heap := h6.update a (Obj.mapSeq fun _ => (arrOf st').map (·.2)) } := by
    intro st' hp u
    obtain ⟨p1, p2⟩ := sortOut hp u
    obtain ⟨e2, he2⟩ : ∃ e2, (h6.update a (Obj.mapSeq fun _ => (arrOf st').map (·.2))).get? a = some (seqObj "list" ((arrOf st').map (·.2)) e2) := ⟨_, get?_update_seq ho6 _⟩
    refine h _ ((arrOf st').map (·.2)).toList e2 (x6.trans ⟨fun b o nb e => (Heap.get?_update_other _ _ (Ne.symm nb)).trans e, rfl, rfl⟩) ?_ p1 p2
    rw [Array.toArray_toList]; exact he2
  by_cases h2 : vs.toArray.size < 2
  · rw [if_pos h2, if_pos h2]
    refine wpAny_bind (wpAny_pure ?_)
    rw [StateT.run_pure]
    refine wpAny_bind (wpAny_pure ?_)
    dsimp only
    refine wpAny_bind (seqEpoch_at ho6 rfl ?_)
    refine wpAny_bind (listUpdate_at ho6 rfl ?_ (Nat.zero_le _) (by show (((vs.toArray.zip vs.toArray)).map (·.2)).size ≤ _; rw [Array.size_map]; show (pairsOf vs).size ≤ _; rw [pairsOf_size, sizeLine_eq]; omega))
    simp only [bne_self_eq_false, Bool.false_eq_true, if_false]
    refine wpAny_pure (fin (SortSt.mk' general' (vs.toArray.zip vs.toArray) #[] 7 none) (Array.Perm.refl _) ?_)
    intro i j _ hij hj
    rw [pairsOf_size] at hj
    rw [List.size_toArray] at h2
    have : i = j := by omega
    subst this; exact Int.le_refl _
  · rw [if_neg h2, if_neg h2]
    rw [List.size_toArray] at h2
    refine wpAny_bind (wpAny_mono (hkind (by omega) _ x6) (fun κ' s'' hk => ?_) fun _ _ q => q.elim)
    obtain ⟨rfl, rfl⟩ := hk
    refine wpAny_bind (wpAny_mono (sortRuns_ (Q := fun _ st' => (arrOf st').Perm (pairsOf vs) ∧ failedOf st' = none ∧ Up key (arrOf st') 0 (pairsOf vs).size) (a₀ := pairsOf vs) (st := SortSt.mk' κ' (vs.toArray.zip vs.toArray) #[] 7 none) (hord _ x6) rfl rfl (fun p hp => ?_) rfl rfl (by rw [pairsOf_size]; omega) (by rw [pairsOf_size]; omega) fun st' a1 a2 a3 => ⟨a1, a2, a3⟩) ?_ fun _ _ e => e)
    · rw [pairsOf_toList] at hp
      have := mem_zip_self hp
      have e : p = (p.1, p.1) := Prod.ext rfl this.1.symm
      rw [e]; exact hP _ this.2
    · rintro ⟨⟨⟩, st'⟩ s' ⟨rfl, hp, hf, hs⟩
      dsimp only
      refine wpAny_bind (seqEpoch_at ho6 rfl ?_)
      refine wpAny_bind (listUpdate_at ho6 rfl ?_ (Nat.zero_le _) (by refine Nat.le_trans (Nat.le_of_eq ((Array.size_map ..).trans (hp.size_eq.trans (pairsOf_size _)))) ?_; rw [sizeLine_eq]; omega))
      rw [hf]
      simp only [bne_self_eq_false, Bool.false_eq_true, if_false]
      exact wpAny_pure (fin st' hp hs)

/-- sorted(v) -/
theorem sortedCall {v : Value} {Q : Value → Shared → Prop}
    (hcol : wpAny (model prog w) A.in1 (collect v) (fun xs s₁ => Grow s s₁ ∧ xs.length < 64 ∧ (2 ≤ xs.length → ∀ (A' : Around) s', A'.units ≤ A.units + 10 → Grow s₁ s' → wpAny (model prog w) A' (keyKind' xs.toArray) (fun κ' s'' => κ' = κ ∧ s'' = s') No s') ∧
      (∀ (A' : Around) s', A'.units ≤ A.units + 10 → Grow s₁ s' → Ord prog w A' s' κ key P) ∧ (∀ x ∈ xs, P (x, x)) ∧
      ∀ s' D (out : List Value) m, Grow s₁ s' → s₁.heap.get? D = none → s'.heap.get? D = some (listOf out.toArray m) → out.Perm xs → (out.Pairwise fun x y => key (x, x) ≤ key (y, y)) → Q (.ref D) s') E s) :
    wpAny (model prog w) A (call (.builtin "sorted") [v]) Q E s := by
  refine Calls.call_function_entry kind_sorted plain_sorted entry_sorted (args_sorted1 _) ?_
  unfold Builtin.«sorted»
  refine wpAny_bind (m := checkCount "sorted" 1 1 _) (wpAny_pure ?_)
  refine wpAny_bind (wpAny_mono hcol (fun xs s₁ ⟨g₁, hz, hk, ho, hP, hQ⟩ => ?_) fun _ _ q => q)
  refine wpAny_bind (newList_ (fun s₂ D g₂ hD nD => ?_) (by omega))
  have gx : ∀ {s'}, ExL D s₂ s' → Grow s₁ s' := fun {s'} x => ⟨fun b o e => x.keep b o (fun q => by rw [q, nD] at e; cases e) (g₂.keep b o e), x.os.trans g₂.os, x.gens.trans g₂.gens⟩
  refine wpAny_bind (wpAny_holding (wpAny_call_entry slot_list_sort ⟨_, hD, rfl⟩ entry_list_sort (listSort hD hz (fun h2 s' x => hk h2 _ s' ?_ (gx x)) (fun s' x => ho _ s' ?_ (gx x)) hP fun s' out m x hD' p1 p2 => ⟨_, rfl, ?_⟩) (args_list_sort _)))
  · show A.units + 1 + 1 ≤ A.units + 10; omega
  · show A.units + 1 + 1 ≤ A.units + 10; omega
  · exact wpAny_pure ⟨_, rfl, hQ s' D out m (gx x) nD hD' p1 p2⟩

/-- a list's items -/
theorem collectList {l : Addr} {vs : List Value} {n : Nat} {Q : List Value → Shared → Prop} (hl : s.heap.get? l = some (listOf vs.toArray n)) (hz : vs.length < 1000000) (h : ∀ s', Grow s s' → Q vs s') : wpAny (model prog w) A (collect (.ref l)) Q E s := by
  refine collect_list (isL hl) (h _ ⟨fun b o e => ?_, rfl, rfl⟩) (by rw [sizeLine_eq]; omega)
  rw [Heap.get?_update_other _ _ (Ne.symm (Nat.ne_of_lt (Heap.lt_size e)))]
  exact Heap.get?_push_of_some _ e

/-- ints by rank -/
theorem ordInt : Ord prog w A s oneType' (fun p => numOf p.1) (fun p => ∃ n t, p.1 = .int n t) where
  lt := by
    rintro E Q ⟨x, x'⟩ ⟨y, y'⟩ ⟨n, t, rfl⟩ ⟨m, u, rfl⟩ h
    rw [keyLt'_oneType]
    exact oneLt_int h

theorem kindInts {vs : List Value} {ns : List Int} (ha : All2 RepI vs ns) (h2 : 2 ≤ vs.length) : keyKind' vs.toArray = pure oneType' := by
  have hI : IntsAre vs ns := by
    clear h2
    induction ha with
    | nil => exact .nil
    | cons r _ ih => obtain ⟨t, rfl⟩ := r; exact .cons _ t ih
  match vs, h2, hI with
  | v₁ :: v₂ :: rest, _, hI => exact keyKind_ints hI

theorem all2_map {vs : List Value} (h : ∀ v ∈ vs, ∃ n t, v = .int n t) : All2 RepI vs (vs.map numOf) := by
  induction vs with
  | nil => exact .nil
  | cons v vs ih =>
    obtain ⟨n, t, rfl⟩ := h v (.head _)
    exact .cons ⟨t, rfl⟩ (ih fun u hu => h u (.tail _ hu))
theorem all2_nums {vs : List Value} {ns : List Int} (ha : All2 RepI vs ns) : vs.map numOf = ns := by
  induction ha with
  | nil => rfl
  | cons r _ ih => obtain ⟨t, rfl⟩ := r; rw [List.map_cons, ih]; rfl
theorem all2_int {vs : List Value} {ns : List Int} (ha : All2 RepI vs ns) : ∀ v ∈ vs, ∃ n t, v = .int n t := by
  induction ha with
  | nil => intro v hv; cases hv
  | cons r _ ih =>
    intro v hv
    rcases List.mem_cons.mp hv with rfl | hv
    · obtain ⟨t, rfl⟩ := r; exact ⟨_, t, rfl⟩
    · exact ih v hv

/-- sorted(l) of a list of ints -/
theorem sortedInts {l : Addr} {vs : List Value} {ns : List Int} {n : Nat} {Q : Value → Shared → Prop} (hl : s.heap.get? l = some (listOf vs.toArray n)) (ha : All2 RepI vs ns) (hz : vs.length < 64)
    (h : ∀ s' D (out : List Value) (ns' : List Int) m, Grow s s' → s.heap.get? D = none → s'.heap.get? D = some (listOf out.toArray m) → All2 RepI out ns' → ns'.Perm ns → ns'.Pairwise (· ≤ ·) → Q (.ref D) s') :
    wpAny (model prog w) A (call (.builtin "sorted") [.ref l]) Q E s := by
  refine sortedCall (κ := oneType') (key := fun p => numOf p.1) (P := fun p => ∃ n t, p.1 = .int n t) (collectList hl (by omega) fun s₁ g₁ => ⟨g₁, hz, fun h2 A' s' _ _ => ?_, fun A' s' _ _ => ordInt, fun x hx => all2_int ha x hx, fun s' D out m g₂ nD hD p1 p2 => ?_⟩)
  · rw [kindInts ha h2]
    exact wpAny_pure ⟨rfl, rfl⟩
  · refine h s' D out (out.map numOf) m (g₁.trans g₂) ?_ hD (all2_map fun v hv => all2_int ha v (p1.mem_iff.mp hv)) ?_ ?_
    · cases q : s.heap.get? D with
      | none => rfl
      | some o => rw [g₁.keep _ _ q] at nD; cases nD
    · have := p1.map numOf
      rwa [all2_nums ha] at this
    · rw [List.pairwise_map]; exact p2
end

/-- a frame with captured names: locals m, cells cm -/
structure Fc (base : Heap) (env : Env) (h : Heap) (m cm : Str → Option Value) : Prop where
  fr : Fr base env.locals h m
  cl : Cl env.locals env.cells h cm

section
variable {prog : Program} {w : World} {A : Around} {E : Value → Shared → Prop} {s s' : Shared} {base : Heap} {env : Env} {m cm : Str → Option Value}

theorem fcGrow (F : Fc base env s.heap m cm) (g : Grow s s') : Fc base env s'.heap m cm := ⟨frGrow F.fr g, F.cl.keeps g.keep⟩
theorem fcExL {D : Addr} (F : Fc base env s.heap m cm) (g : ExL D s s') (hL : D ≠ env.locals) (hb : base.get? D = none) (hc : ∀ n c, env.cells.lookup n = some c → D ≠ c) : Fc base env s'.heap m cm :=
  ⟨frExL F.fr g (Ne.symm hL) hb, ⟨fun n c e => let ⟨o, ho, hd⟩ := F.cl.cell n c e; ⟨o, g.keep c o (Ne.symm (hc n c e)) ho, hd⟩, F.cl.apart, F.cl.above⟩⟩
/-- what is new is none of the frame's places -/
theorem fcNew {a : Addr} (F : Fc base env s.heap m cm) (h : s.heap.get? a = none) : a ≠ env.locals ∧ base.get? a = none ∧ ∀ n c, env.cells.lookup n = some c → a ≠ c := by
  refine ⟨fun q => ?_, ?_, fun n c e q => ?_⟩
  · obtain ⟨o, _, _, ho, _⟩ := F.fr.ns
    rw [q, ho] at h; cases h
  · cases q : base.get? a with
    | none => rfl
    | some o => rw [F.fr.keep _ _ q] at h; cases h
  · obtain ⟨o, ho, _⟩ := F.cl.cell n c e
    rw [q, ho] at h; cases h

theorem stL {x : Str} {v : Value} {Q : Unit → Shared → Prop} (F : Fc base env s.heap m cm) (h : ∀ s', Fc base env s'.heap (upd m x v) cm → ExL env.locals s s' → Q () s')
    (hk : env.scope.kind = .function := by rfl) (hl : env.kindOf x = some .local := by rfl) : wpAny (model prog w) A (storeName env x v) Q E s := by
  refine wpAny_storeName_local hl F.fr.ns (fun h' hn hs => h _ ⟨F.fr.set hn hs, F.cl.sameBut hs (Nat.le_refl _)⟩ ⟨fun b _ n e => (hs.2 b n).trans e, rfl, rfl⟩) (by rw [hk]; rfl)
theorem stCe {x : Str} {c : Addr} {v : Value} {Q : Unit → Shared → Prop} (F : Fc base env s.heap m cm) (hc : env.cells.lookup x = some c) (h : ∀ s', Fc base env s'.heap m (upd cm x v) → ExL c s s' → Q () s')
    (hk : env.scope.kind = .function := by rfl) (hl : env.kindOf x = some .cell := by rfl) : wpAny (model prog w) A (storeName env x v) Q E s := by
  have hLc := F.cl.above x c (mem_of_lookup hc)
  refine wpAny_storeName_cell hk hl hc (F.cl.cell x c hc) fun h' hv hs => h _ ⟨⟨F.fr.ns.sameBut hs (Nat.ne_of_lt hLc), fun b o e => (hs.2 b (Nat.ne_of_lt (Nat.lt_trans (Nat.lt_of_lt_of_le (Heap.lt_size e) F.fr.above) hLc))).trans (F.fr.keep b o e), F.fr.above⟩, ⟨fun n c' e => ?_, F.cl.apart, F.cl.above⟩⟩ ⟨fun b _ n e => (hs.2 b n).trans e, rfl, rfl⟩
  by_cases hn : n = x
  · subst hn; rw [hc] at e; cases e
    have : upd cm n v n = some v := upd_same
    rw [this]; exact hv
  · have hcc : c' ≠ c := fun q => hn (name_of_addr F.cl.apart (mem_of_lookup e) (q ▸ mem_of_lookup hc))
    have : upd cm x v n = cm n := upd_ne hn rfl
    rw [this]; exact (F.cl.cell n c' e).sameBut hs hcc
theorem ldCe {x : Str} {c : Addr} {v : Value} {pos : Pos} {Q : Value → Shared → Prop} (F : Fc base env s.heap m cm) (hc : env.cells.lookup x = some c) (hv : cm x = some v) (h : Q v s)
    (hk : env.scope.kind = .function := by rfl) (hl : env.kindOf x = some .cell := by rfl) (hd : (x == ("__debug__" : Str)) = false := by decide) : wpAny (model prog w) A (eval (.Name x pos) env) Q E s := by
  obtain ⟨o, ho, hd'⟩ := F.cl.cell x c hc
  rw [hv] at hd'
  exact ldCell hc ho hd' h hk hl hd

theorem nameGE {x : Str} {v : Value} {pos : Pos} {Q : Value → Shared → Prop} (hb : base.StaysIn s.heap) (B : Gn base x v) (h : Q v s) (eg : env.globals = mainGlobals := by rfl)
    (hk : env.scope.kind = .function := by rfl) (hx : env.kindOf x = some .globalImplicit := by rfl) (hd : (x == ("__debug__" : Str)) = false := by decide) : wpAny (model prog w) A (eval (.Name x pos) env) Q E s :=
  let ⟨_, g, v'⟩ := B
  Calls.Name_function_global hk hx (Calls.loadGlobal_global (env := env) (eg ▸ g.keeps hb) v' h) hd

theorem callNameE {x name : Str} {f : Addr} {cd : Value} {st : Stmt} {e : Expr} {rest : List Expr} {p pos : Pos} {Q : Value → Shared → Prop} (hb : base.StaysIn s.heap) (G : Gn base x (.ref f)) (fn : Fn base f name st cd)
    (h : wpAny (model prog w) A (spliced (backTo pos (starEach (e :: rest) env))) (fun vs s₁ => base.StaysIn s₁.heap ∧
      codeAny (model prog w) A (.call (.ref f) ⟨vs, []⟩) (fun r s' => match r with | .ok (.ret v) => Q v s' | .ok _ => False | .error e => E e s') s₁) E s)
    (he : starEach (e :: rest) env = (false, eval e env) :: starEach rest env := by rfl)
    (hc : eval (.Call (.Name x p) (e :: rest) [] pos) env = (do callWith pos (← eval (.Name x p) env) [] (backTo pos (starEach (e :: rest) env)) (backToKw pos (keywordEach [] env))) := by rfl)
    (eg : env.globals = mainGlobals := by rfl) (hk : env.scope.kind = .function := by rfl) (hx : env.kindOf x = some .globalImplicit := by rfl) (hd : (x == ("__debug__" : Str)) = false := by decide) :
    wpAny (model prog w) A (eval (.Call (.Name x p) (e :: rest) [] pos) env) Q E s := by
  obtain ⟨⟨o, doc, pm, an, ct, ho, hd'⟩, _⟩ := fn
  refine Call_ (nameGE hb G ?_ eg hk hx hd) hc
  refine callWith_def hd' (wpAny_mono h (fun vs s₁ h₁ => ⟨h₁.1 _ _ ho, wpAny_call h₁.2⟩) fun _ _ x => x) he

/-- a call of a function with captured names -/
theorem callFnC {R : Result → Shared → Prop} {st : Stmt} {name : Str} {f : Addr} {cd : Value} {args : List Value} {binds : List (Str × Value)}
    (fn : Fn s.heap f name st cd) (lim : s.heap.NoLimit) (hroom : A.depth < recursionLimit)
    (hbind : ∀ doc pm an ct, bindArgs (fnOf name name (paramsOf st) (bodyOf st) (scopeOf st) .none .none doc pm an cd ct) ⟨args, []⟩ = pure binds)
    (hkind : ∀ x ∈ binds, (scopeOf st).names.lookup x.1 = some .local ∨ ((scopeOf st).names.lookup x.1 = some .cell ∧ ((cellsFrom (s.heap.objs.size + 1) (scopeOf st).names []).lookup x.1).isSome = true))
    (h : ∀ s₁, Fc s.heap (envOfC name (scopeOf st) s.heap.objs.size f cd) s₁.heap (bindL (envOfC name (scopeOf st) s.heap.objs.size f cd).kindOf binds fun _ => none) (bindC (envOfC name (scopeOf st) s.heap.objs.size f cd).kindOf binds fun _ => none) → Grow s s₁ →
      wpAny (model prog w) (A.deeper (envOfC name (scopeOf st) s.heap.objs.size f cd)) (execs (bodyOf st) (envOfC name (scopeOf st) s.heap.objs.size f cd))
        (fun fl s' => R (.ok (.ret (match fl with | .ret v => v | _ => .none))) s')
        (fun e s' => wpAny (model prog w) (A.deeper (envOfC name (scopeOf st) s.heap.objs.size f cd)) (leaving (envOfC name (scopeOf st) s.heap.objs.size f cd) e) (fun _ s'' => R (.error e) s'') (fun e' s'' => R (.error e') s'') s') s₁)
    (hco : (scopeOf st).isCoroutine = false := by rfl) (hgen : (scopeOf st).isGenerator = false := by rfl) (hk : (scopeOf st).kind = .function := by rfl) :
    codeAny (model prog w) A (.call (.ref f) ⟨args, []⟩) R s := by
  obtain ⟨⟨o, doc, pm, an, ct, ho, hd⟩, hcd⟩ := fn
  refine codeAny_call_cells hroom ho hd lim hcd rfl (hbind doc pm an ct) rfl hkind (fun s₁ X => ?_) hco hgen hk
  have F : Fc s.heap (envOfC name (scopeOf st) s.heap.objs.size f cd) s₁.heap _ _ := ⟨⟨X.toInCall.ns, X.toInCall.keep, X.toInCall.fresh⟩, ⟨X.cell, X.apart, X.above⟩⟩
  obtain ⟨h₁, tk, rfl⟩ := X.toInCall.same
  exact h _ F ⟨X.toInCall.keep, rfl, rfl⟩

/-- a for-loop, any frame -/
theorem forG {α : Type} {RA : Value → α → Prop} {X : List α} {fps : Addr → List Addr} {x : Str} {px pos : Pos} {iter : Expr} {body : List Stmt} {Q : Flow → Shared → Prop} (hh : A.handled = none)
    (hsrc : wpAny (model prog w) A (eval iter env) (fun y s₁ => wpAny (model prog w) A (pyIter y) (fun itv s₂ => ∃ it V P, itv = .ref it ∧ Src prog w s s₂ RA X it (fps it) V P) E s₁) E s)
    (J : Addr → Nat → Shared → Prop) (hJ : ∀ it k s₁ s₂, s.heap.get? it = none → J it k s₁ → ExL it s₁ s₂ → J it k s₂) (h0 : ∀ it s₁, s.heap.get? it = none → Grow s s₁ → J it 0 s₁)
    (turn : ∀ it k v s₁ (hk : k < X.length), s.heap.get? it = none → s₁.heap.get? it ≠ none → RA v X[k] → J it k s₁ →
      wpAny (model prog w) A (storeName env x v) (fun _ s₂ => wpAny (model prog w) A (execs body env) (fun f s₃ => (f = .next ∧ Stay (fps it) s₁.heap s₃.heap ∧ J it (k + 1) s₃) ∨ ∃ v, f = .ret v ∧ Q (.ret v) s₃) No s₂) No s₁)
    (hQ : ∀ it s', s.heap.get? it = none → J it X.length s' → Q .next s')
    (hs : ∀ x, foldedSetIterable iter env x = pure x := by intro _; rfl) :
    wpAny (model prog w) A (exec (.For (.Name x px) iter body [] pos) env) Q E s := by
  refine wpAny_For (wpAny_mono hsrc (fun y s₁ h₁ => wpAny_mono h₁ (fun itv s₂ h₂ => ?_) fun _ _ e => e) fun _ _ e => e) hs
  obtain ⟨it, V, P, rfl, S⟩ := h₂
  have ni := S.ni
  refine forIt (R := fun r s' => match r with | .ok f => Q f s' | .error e => cameBackBy (model prog w) A env E e s') S.D hh S.p0 (fun k s₁ => J it k s₁) (fun k s₁ s₂ j g => hJ it k s₁ s₂ ni j g) (h0 it s₂ ni S.g) ?_ fun s' j => hQ it s' ni j
  intro k v s₁ hk hv hp j
  exact turn it k v s₁ hk ni (S.D.there hp) (S.ra k v hk hv) j
end

section
variable {prog : Program} {w : World} {A : Around} {E : Value → Shared → Prop} {s : Shared}
open PySem.MeetsSeq PySem.MeetsSeq2 PySem.MeetsSeq3

theorem int_lt_tup (x : Int) (t : Tok) (b : Addr) (us : List Value) : Meets (Builtin.«int.__lt__» ⟨[.int x t, .ref b], []⟩)
    (fun _ R s => s.heap.get? b = some (tupOf us) ∧ R (.ok (.ret .notImplemented)) s) := by
  intro prog w A R s h
  obtain ⟨hp, g, d, tk, os⟩ := s; obtain ⟨hb, h⟩ := h
  have f3 := PySem.F.sub_tuple_int
  wp_walk using PySem.AutoSeq1.wpAny_loadPart' hb
  exact h
theorem tup_lt_int (x : Int) (t : Tok) (b : Addr) (us : List Value) : Meets (Builtin.«tuple.__lt__» ⟨[.ref b, .int x t], []⟩)
    (fun _ R s => s.heap.get? b = some (tupOf us) ∧ R (.ok (.ret .notImplemented)) s) := by
  intro prog w A R s h
  obtain ⟨hp, g, d, tk, os⟩ := s; obtain ⟨hb, h⟩ := h
  have f3 := PySem.F.sub_int_tuple
  wp_walk using PySem.AutoSeq1.wpAny_loadPart' hb
  exact h
theorem int_gt_tup (x : Int) (t : Tok) (b : Addr) (us : List Value) : Meets (Builtin.«int.__gt__» ⟨[.int x t, .ref b], []⟩)
    (fun _ R s => s.heap.get? b = some (tupOf us) ∧ R (.ok (.ret .notImplemented)) s) := by
  intro prog w A R s h
  obtain ⟨hp, g, d, tk, os⟩ := s; obtain ⟨hb, h⟩ := h
  have f3 := PySem.F.sub_tuple_int
  wp_walk using PySem.AutoSeq1.wpAny_loadPart' hb
  exact h
theorem tup_gt_int (x : Int) (t : Tok) (b : Addr) (us : List Value) : Meets (Builtin.«tuple.__gt__» ⟨[.ref b, .int x t], []⟩)
    (fun _ R s => s.heap.get? b = some (tupOf us) ∧ R (.ok (.ret .notImplemented)) s) := by
  intro prog w A R s h
  obtain ⟨hp, g, d, tk, os⟩ := s; obtain ⟨hb, h⟩ := h
  have f3 := PySem.F.sub_int_tuple
  wp_walk using PySem.AutoSeq1.wpAny_loadPart' hb
  exact h
theorem str_lt_tup (x : Str) (t : Tok) (b : Addr) (us : List Value) : Meets (Builtin.«str.__lt__» ⟨[.str x t, .ref b], []⟩)
    (fun _ R s => s.heap.get? b = some (tupOf us) ∧ R (.ok (.ret .notImplemented)) s) := by
  intro prog w A R s h
  obtain ⟨hp, g, d, tk, os⟩ := s; obtain ⟨hb, h⟩ := h
  have f3 := PySem.F.sub_tuple_str
  wp_walk using PySem.AutoSeq1.wpAny_loadPart' hb
  exact h
theorem tup_lt_str (x : Str) (t : Tok) (b : Addr) (us : List Value) : Meets (Builtin.«tuple.__lt__» ⟨[.ref b, .str x t], []⟩)
    (fun _ R s => s.heap.get? b = some (tupOf us) ∧ R (.ok (.ret .notImplemented)) s) := by
  intro prog w A R s h
  obtain ⟨hp, g, d, tk, os⟩ := s; obtain ⟨hb, h⟩ := h
  have f3 := PySem.F.sub_str_tuple
  wp_walk using PySem.AutoSeq1.wpAny_loadPart' hb
  exact h
theorem str_gt_tup (x : Str) (t : Tok) (b : Addr) (us : List Value) : Meets (Builtin.«str.__gt__» ⟨[.str x t, .ref b], []⟩)
    (fun _ R s => s.heap.get? b = some (tupOf us) ∧ R (.ok (.ret .notImplemented)) s) := by
  intro prog w A R s h
  obtain ⟨hp, g, d, tk, os⟩ := s; obtain ⟨hb, h⟩ := h
  have f3 := PySem.F.sub_tuple_str
  wp_walk using PySem.AutoSeq1.wpAny_loadPart' hb
  exact h
theorem tup_gt_str (x : Str) (t : Tok) (b : Addr) (us : List Value) : Meets (Builtin.«tuple.__gt__» ⟨[.ref b, .str x t], []⟩)
    (fun _ R s => s.heap.get? b = some (tupOf us) ∧ R (.ok (.ret .notImplemented)) s) := by
  intro prog w A R s h
  obtain ⟨hp, g, d, tk, os⟩ := s; obtain ⟨hb, h⟩ := h
  have f3 := PySem.F.sub_str_tuple
  wp_walk using PySem.AutoSeq1.wpAny_loadPart' hb
  exact h

/-- «a < b» of unlike kinds -/
theorem ltDecl {a b : Value} {Ta Tb ida idb : String} {Q : Value → Shared → Prop} (hh : A.handled = none) (ha : s.TypeIs a Ta) (hb : s.TypeIs b Tb)
    (hne : (Value.type Ta != Value.type Tb) = true) (hsub : isSubtype (.type Tb) (.type Ta) = pure false) (h1 : Slot Ta (cmpInfo .Lt).2.1 ida) (h2 : Slot Tb (cmpInfo .Lt).2.2 idb)
    (hna : (Value.type Ta == Value.type "builtin_function_or_method") = false) (hnb : (Value.type Tb == Value.type "builtin_function_or_method") = false)
    (c1 : ∀ {Q' : Value → Shared → Prop}, Q' .notImplemented s → wpAny (model prog w) A (call (.builtin ida) [a, b]) Q' E s) (c2 : ∀ {Q' : Value → Shared → Prop}, Q' .notImplemented s → wpAny (model prog w) A (call (.builtin idb) [b, a]) Q' E s)
    (hu : A.units < cLine) (hTa : (shownName Ta).length ≤ 1000) (hTb : (shownName Tb).length ≤ 1000)
    (h : ∀ h' tk e, Heap.NewExc s.heap h' e "TypeError" → E (.ref e) { s with heap := h', toks := tk }) : wpAny (model prog w) A (richCompare .Lt a b) Q E s := by
  simp only [richCompare, cmpInfo, ha.oneThing_none] at h1 h2 ⊢
  refine wpAny_holding (wpAny_bind (wpAny_cRoomFor_or (.inr hu) (wpAny_bind (wpAny_typeOf ha (wpAny_bind (wpAny_typeOf hb ?_))))))
  simp only [hne, if_true]
  refine wpAny_bind (wpAny_of_eq hsub ?_)
  simp only [Bool.false_eq_true, if_false, Bool.not_false, if_true]
  refine wpAny_bind (m := tryCompare a _ b) (wpAny_tryCompare_declines ha h1 (c1 ⟨rfl, ?_⟩))
  refine wpAny_bind (m := tryCompare b _ a) (wpAny_tryCompare_declines hb h2 (c2 ⟨rfl, ?_⟩))
  refine wpAny_bind (wpAny_rule (wpAny_bind (wpAny_typeNameOf' ha hna (wpAny_bind (wpAny_typeNameOf' hb hnb (wpAny_raiseTypeError hh h ?_))))))
  show (Str.ofString _).length ≤ sizeLine
  rw [PySem.ofString_length, sizeLine_eq]
  simp only [String.length_append, toString]
  have e1 : "'".length ≤ 100 := by decide
  have e2 : "<".length ≤ 100 := by decide
  have e3 : "' not supported between instances of '".length ≤ 100 := by decide
  have e4 : "' and '".length ≤ 100 := by decide
  omega

theorem lt_int_str' {x : Int} {t : Tok} {y : Str} {u : Tok} {Q : Value → Shared → Prop} (hh : A.handled = none) (h : ∀ h' tk e, Heap.NewExc s.heap h' e "TypeError" → E (.ref e) { s with heap := h', toks := tk }) :
    wpAny (model prog w) A (compareOp .Lt (.int x t) (.str y u)) Q E s := wpAny_lt_int_str hh h
theorem lt_str_int' {x : Str} {t : Tok} {y : Int} {u : Tok} {Q : Value → Shared → Prop} (hh : A.handled = none) (hu : A.units < cLine) (h : ∀ h' tk e, Heap.NewExc s.heap h' e "TypeError" → E (.ref e) { s with heap := h', toks := tk }) :
    wpAny (model prog w) A (compareOp .Lt (.str x t) (.int y u)) Q E s :=
  cmp_ofLt (ltDecl hh (typeIs_str s x t) (typeIs_int s y u) (by decide) PySem.F.sub_int_str PySem.F.slot_str_lt PySem.F.slot_int_gt_refl (by decide) (by decide)
    (fun q => wpAny_call_entry PySem.F.slot_str_lt (typeIs_str s x t) PySem.F.entry_str_lt (show wpAny _ _ (do rule "str.__lt__.not-a-str"; ret .notImplemented) _ _ s from wpAny_bind (wpAny_rule (wpAny_pure ⟨_, rfl, q⟩))) (PySem.F.args_str_lt_2 _ _))
    (fun q => call_gives PySem.F.slot_int_gt (typeIs_int s y u) PySem.F.entry_int_gt (PySem.F.args_int_gt_2 _ _) (AutoIntG6.int___gt___int_str_0 y u x t) q) hu (by decide) (by decide) h)
theorem lt_int_tup {x : Int} {t : Tok} {b : Addr} {us : List Value} {Q : Value → Shared → Prop} (hh : A.handled = none) (hu : A.units < cLine) (hb : s.heap.get? b = some (tupOf us)) (h : ∀ h' tk e, Heap.NewExc s.heap h' e "TypeError" → E (.ref e) { s with heap := h', toks := tk }) :
    wpAny (model prog w) A (compareOp .Lt (.int x t) (.ref b)) Q E s :=
  cmp_ofLt (ltDecl hh (typeIs_int s x t) (Tb := "tuple") ⟨_, hb, rfl⟩ (by decide) PySem.F.sub_tuple_int PySem.F.slot_int_lt PySem.F.slot_tuple_gt_refl (by decide) (by decide)
    (fun q => call_meets PySem.F.slot_int_lt (typeIs_int s x t) PySem.F.entry_int_lt (PySem.F.args_int_lt_2 _ _) (int_lt_tup x t b us) ⟨hb, q⟩)
    (fun q => call_meets PySem.F.slot_tuple_gt ⟨_, hb, rfl⟩ PySem.F.entry_tuple_gt (PySem.F.args_tuple_gt_2 _ _) (tup_gt_int x t b us) ⟨hb, q⟩) hu (by decide) (by decide) h)
theorem lt_tup_int {x : Int} {t : Tok} {b : Addr} {us : List Value} {Q : Value → Shared → Prop} (hh : A.handled = none) (hu : A.units < cLine) (hb : s.heap.get? b = some (tupOf us)) (h : ∀ h' tk e, Heap.NewExc s.heap h' e "TypeError" → E (.ref e) { s with heap := h', toks := tk }) :
    wpAny (model prog w) A (compareOp .Lt (.ref b) (.int x t)) Q E s :=
  cmp_ofLt (ltDecl hh (Ta := "tuple") ⟨_, hb, rfl⟩ (typeIs_int s x t) (by decide) PySem.F.sub_int_tuple PySem.F.slot_tuple_lt PySem.F.slot_int_gt_refl (by decide) (by decide)
    (fun q => call_meets PySem.F.slot_tuple_lt ⟨_, hb, rfl⟩ PySem.F.entry_tuple_lt (PySem.F.args_tuple_lt_2 _ _) (tup_lt_int x t b us) ⟨hb, q⟩)
    (fun q => call_meets PySem.F.slot_int_gt (typeIs_int s x t) PySem.F.entry_int_gt (PySem.F.args_int_gt_2 _ _) (int_gt_tup x t b us) ⟨hb, q⟩) hu (by decide) (by decide) h)
theorem lt_str_tup {x : Str} {t : Tok} {b : Addr} {us : List Value} {Q : Value → Shared → Prop} (hh : A.handled = none) (hu : A.units < cLine) (hb : s.heap.get? b = some (tupOf us)) (h : ∀ h' tk e, Heap.NewExc s.heap h' e "TypeError" → E (.ref e) { s with heap := h', toks := tk }) :
    wpAny (model prog w) A (compareOp .Lt (.str x t) (.ref b)) Q E s :=
  cmp_ofLt (ltDecl hh (typeIs_str s x t) (Tb := "tuple") ⟨_, hb, rfl⟩ (by decide) PySem.F.sub_tuple_str PySem.F.slot_str_lt PySem.F.slot_tuple_gt_refl (by decide) (by decide)
    (fun q => call_meets PySem.F.slot_str_lt (typeIs_str s x t) PySem.F.entry_str_lt (PySem.F.args_str_lt_2 _ _) (str_lt_tup x t b us) ⟨hb, q⟩)
    (fun q => call_meets PySem.F.slot_tuple_gt ⟨_, hb, rfl⟩ PySem.F.entry_tuple_gt (PySem.F.args_tuple_gt_2 _ _) (tup_gt_str x t b us) ⟨hb, q⟩) hu (by decide) (by decide) h)
theorem lt_tup_str {x : Str} {t : Tok} {b : Addr} {us : List Value} {Q : Value → Shared → Prop} (hh : A.handled = none) (hu : A.units < cLine) (hb : s.heap.get? b = some (tupOf us)) (h : ∀ h' tk e, Heap.NewExc s.heap h' e "TypeError" → E (.ref e) { s with heap := h', toks := tk }) :
    wpAny (model prog w) A (compareOp .Lt (.ref b) (.str x t)) Q E s :=
  cmp_ofLt (ltDecl hh (Ta := "tuple") ⟨_, hb, rfl⟩ (typeIs_str s x t) (by decide) PySem.F.sub_str_tuple PySem.F.slot_tuple_lt PySem.F.slot_str_gt_refl (by decide) (by decide)
    (fun q => call_meets PySem.F.slot_tuple_lt ⟨_, hb, rfl⟩ PySem.F.entry_tuple_lt (PySem.F.args_tuple_lt_2 _ _) (tup_lt_str x t b us) ⟨hb, q⟩)
    (fun q => call_meets PySem.F.slot_str_gt (typeIs_str s x t) PySem.F.entry_str_gt (PySem.F.args_str_gt_2 _ _) (str_gt_tup x t b us) ⟨hb, q⟩) hu (by decide) (by decide) h)
end

def RcOp (op : CmpOp) (A : Around) (s : Shared) (y x : Value) (b : Bool) : Prop := ∀ (prog : Program) (w : World) (E : Value → Shared → Prop) (Q : Value → Shared → Prop), Q (.bool b) s → wpAny (model prog w) A (richCompare op y x) Q E s

section
variable {prog : Program} {w : World} {A : Around} {E : Value → Shared → Prop} {s : Shared}

theorem tupGt22 (l b : Addr) (p1 p2 q1 q2 : Value) (e1 e2 r1 r2 : Bool) : Meets (Builtin.«tuple.__gt__» ⟨[.ref l, .ref b], []⟩)
    (fun A R s => s.heap.get? l = some (tupOf [p1, p2]) ∧ s.heap.get? b = some (tupOf [q1, q2]) ∧ EqAt A.in1 s p1 q1 e1 ∧ (e1 = false → RcOp .Gt A.in1 s p1 q1 r1) ∧ (e1 = true → EqAt A.in1 s p2 q2 e2) ∧ (e1 = true → e2 = false → RcOp .Gt A.in1 s p2 q2 r2) ∧
      R (.ok (.ret (.bool (if e1 then (if e2 then false else r2) else r1)))) s) := by
  intro prog w A R s h
  obtain ⟨hp, g, d, tk, os⟩ := s; obtain ⟨hl, hb, h1, h2, h3, h4, h⟩ := h
  have f3 := PySem.F.sub_tuple_tuple
  wp_walk using PySem.AutoSeq1.wpAny_loadPart' hl, PySem.AutoSeq1.wpAny_loadPart' hb, wpAny_forIn_list _ (fun rest b s' => b.1 = none ∧ s' = ⟨hp, g, d, tk, os⟩ ∧ (rest = [(p1, q1), (p2, q2)] ∨ (rest = [(p2, q2)] ∧ e1 = true) ∨ (rest = [] ∧ e1 = true ∧ e2 = true))) _
  case turn =>
    rintro ⟨y, x⟩ rest b s' ⟨hb', rfl, hc⟩
    rcases hc with hc | ⟨hc, he⟩ | ⟨hc, _⟩
    · cases hc
      refine wpAny_bind (h1 prog w _ _ ?_)
      cases e1 with
      | false =>
        rw [if_pos (by decide)]
        dsimp only
        refine wpAny_bind (wpAny_rule (wpAny_bind (h2 rfl prog w _ _ ?_)))
        wp_walk
        exact h
      | true =>
        rw [if_neg (by decide)]
        exact wpAny_pure ⟨rfl, rfl, .inr (.inl ⟨rfl, rfl⟩)⟩
    · cases hc
      subst he
      refine wpAny_bind (h3 rfl prog w _ _ ?_)
      cases e2 with
      | false =>
        rw [if_pos (by decide)]
        dsimp only
        refine wpAny_bind (wpAny_rule (wpAny_bind (h4 rfl rfl prog w _ _ ?_)))
        wp_walk
        exact h
      | true =>
        rw [if_neg (by decide)]
        exact wpAny_pure ⟨rfl, rfl, .inr (.inr ⟨rfl, rfl, rfl⟩)⟩
    · cases hc
  case fin =>
    rintro ⟨b1, b2⟩ s' ⟨hb', rfl, hc⟩
    simp only at hb'
    subst hb'
    rcases hc with hc | ⟨hc, _⟩ | ⟨_, he1, he2⟩
    · cases hc
    · cases hc
    · subst he1 he2
      wp_walk
      exact h
  case h => exact ⟨rfl, rfl, .inl rfl⟩
theorem tupLt22 (l b : Addr) (p1 p2 q1 q2 : Value) (e1 e2 r1 r2 : Bool) : Meets (Builtin.«tuple.__lt__» ⟨[.ref l, .ref b], []⟩)
    (fun A R s => s.heap.get? l = some (tupOf [p1, p2]) ∧ s.heap.get? b = some (tupOf [q1, q2]) ∧ EqAt A.in1 s p1 q1 e1 ∧ (e1 = false → RcOp .Lt A.in1 s p1 q1 r1) ∧ (e1 = true → EqAt A.in1 s p2 q2 e2) ∧ (e1 = true → e2 = false → RcOp .Lt A.in1 s p2 q2 r2) ∧
      R (.ok (.ret (.bool (if e1 then (if e2 then false else r2) else r1)))) s) := by
  intro prog w A R s h
  obtain ⟨hp, g, d, tk, os⟩ := s; obtain ⟨hl, hb, h1, h2, h3, h4, h⟩ := h
  have f3 := PySem.F.sub_tuple_tuple
  wp_walk using PySem.AutoSeq1.wpAny_loadPart' hl, PySem.AutoSeq1.wpAny_loadPart' hb, wpAny_forIn_list _ (fun rest b s' => b.1 = none ∧ s' = ⟨hp, g, d, tk, os⟩ ∧ (rest = [(p1, q1), (p2, q2)] ∨ (rest = [(p2, q2)] ∧ e1 = true) ∨ (rest = [] ∧ e1 = true ∧ e2 = true))) _
  case turn =>
    rintro ⟨y, x⟩ rest b s' ⟨hb', rfl, hc⟩
    rcases hc with hc | ⟨hc, he⟩ | ⟨hc, _⟩
    · cases hc
      refine wpAny_bind (h1 prog w _ _ ?_)
      cases e1 with
      | false =>
        rw [if_pos (by decide)]
        dsimp only
        refine wpAny_bind (wpAny_rule (wpAny_bind (h2 rfl prog w _ _ ?_)))
        wp_walk
        exact h
      | true =>
        rw [if_neg (by decide)]
        exact wpAny_pure ⟨rfl, rfl, .inr (.inl ⟨rfl, rfl⟩)⟩
    · cases hc
      subst he
      refine wpAny_bind (h3 rfl prog w _ _ ?_)
      cases e2 with
      | false =>
        rw [if_pos (by decide)]
        dsimp only
        refine wpAny_bind (wpAny_rule (wpAny_bind (h4 rfl rfl prog w _ _ ?_)))
        wp_walk
        exact h
      | true =>
        rw [if_neg (by decide)]
        exact wpAny_pure ⟨rfl, rfl, .inr (.inr ⟨rfl, rfl, rfl⟩)⟩
    · cases hc
  case fin =>
    rintro ⟨b1, b2⟩ s' ⟨hb', rfl, hc⟩
    simp only at hb'
    subst hb'
    rcases hc with hc | ⟨hc, _⟩ | ⟨_, he1, he2⟩
    · cases hc
    · cases hc
    · subst he1 he2
      wp_walk
      exact h
  case h => exact ⟨rfl, rfl, .inl rfl⟩
theorem tupGt21 (l b : Addr) (p1 p2 q1 : Value) (e1 r1 : Bool) : Meets (Builtin.«tuple.__gt__» ⟨[.ref l, .ref b], []⟩)
    (fun A R s => s.heap.get? l = some (tupOf [p1, p2]) ∧ s.heap.get? b = some (tupOf [q1]) ∧ EqAt A.in1 s p1 q1 e1 ∧ (e1 = false → RcOp .Gt A.in1 s p1 q1 r1) ∧
      R (.ok (.ret (.bool (if e1 then true else r1)))) s) := by
  intro prog w A R s h
  obtain ⟨hp, g, d, tk, os⟩ := s; obtain ⟨hl, hb, h1, h2, h⟩ := h
  have f3 := PySem.F.sub_tuple_tuple
  wp_walk using PySem.AutoSeq1.wpAny_loadPart' hl, PySem.AutoSeq1.wpAny_loadPart' hb, wpAny_forIn_list _ (fun rest b s' => b.1 = none ∧ s' = ⟨hp, g, d, tk, os⟩ ∧ (rest = [(p1, q1)] ∨ (rest = [] ∧ e1 = true))) _
  case turn =>
    rintro ⟨y, x⟩ rest b s' ⟨hb', rfl, hc⟩
    rcases hc with hc | ⟨hc, _⟩
    · cases hc
      refine wpAny_bind (h1 prog w _ _ ?_)
      cases e1 with
      | false =>
        rw [if_pos (by decide)]
        dsimp only
        refine wpAny_bind (wpAny_rule (wpAny_bind (h2 rfl prog w _ _ ?_)))
        wp_walk
        exact h
      | true =>
        rw [if_neg (by decide)]
        exact wpAny_pure ⟨rfl, rfl, .inr ⟨rfl, rfl⟩⟩
    · cases hc
  case fin =>
    rintro ⟨b1, b2⟩ s' ⟨hb', rfl, hc⟩
    simp only at hb'
    subst hb'
    rcases hc with hc | ⟨_, he1⟩
    · cases hc
    · subst he1
      wp_walk
      exact h
  case h => exact ⟨rfl, rfl, .inl rfl⟩

theorem RcOp.gt22 {l b : Addr} {p1 p2 q1 q2 : Value} {e1 e2 r1 r2 : Bool} (hl : s.heap.get? l = some (tupOf [p1, p2])) (hb : s.heap.get? b = some (tupOf [q1, q2])) (hu : A.units < cLine) (h1 : EqAt A.in1 s p1 q1 e1) (h2 : e1 = false → RcOp .Gt A.in1 s p1 q1 r1) (h3 : e1 = true → EqAt A.in1 s p2 q2 e2) (h4 : e1 = true → e2 = false → RcOp .Gt A.in1 s p2 q2 r2) :
    RcOp .Gt A s (.ref l) (.ref b) (if e1 then (if e2 then false else r2) else r1) := fun prog w E Q h =>
  richCompare_meets_room (op := .Gt) ⟨_, hl, rfl⟩ ⟨_, hb, rfl⟩ PySem.F.slot_tuple_gt PySem.F.entry_tuple_gt (PySem.F.args_tuple_gt_2 _ _) (tupGt22 l b p1 p2 q1 q2 e1 e2 r1 r2) ⟨hl, hb, h1, h2, h3, h4, show Value.bool _ ≠ Value.notImplemented ∧ Q _ s from ⟨(fun x => nomatch x), h⟩⟩ hu
theorem RcOp.lt22 {l b : Addr} {p1 p2 q1 q2 : Value} {e1 e2 r1 r2 : Bool} (hl : s.heap.get? l = some (tupOf [p1, p2])) (hb : s.heap.get? b = some (tupOf [q1, q2])) (hu : A.units < cLine) (h1 : EqAt A.in1 s p1 q1 e1) (h2 : e1 = false → RcOp .Lt A.in1 s p1 q1 r1) (h3 : e1 = true → EqAt A.in1 s p2 q2 e2) (h4 : e1 = true → e2 = false → RcOp .Lt A.in1 s p2 q2 r2) :
    RcOp .Lt A s (.ref l) (.ref b) (if e1 then (if e2 then false else r2) else r1) := fun prog w E Q h =>
  richCompare_meets_room (op := .Lt) ⟨_, hl, rfl⟩ ⟨_, hb, rfl⟩ PySem.F.slot_tuple_lt PySem.F.entry_tuple_lt (PySem.F.args_tuple_lt_2 _ _) (tupLt22 l b p1 p2 q1 q2 e1 e2 r1 r2) ⟨hl, hb, h1, h2, h3, h4, show Value.bool _ ≠ Value.notImplemented ∧ Q _ s from ⟨(fun x => nomatch x), h⟩⟩ hu
theorem RcOp.gt21 {l b : Addr} {p1 p2 q1 : Value} {e1 r1 : Bool} (hl : s.heap.get? l = some (tupOf [p1, p2])) (hb : s.heap.get? b = some (tupOf [q1])) (hu : A.units < cLine) (h1 : EqAt A.in1 s p1 q1 e1) (h2 : e1 = false → RcOp .Gt A.in1 s p1 q1 r1) :
    RcOp .Gt A s (.ref l) (.ref b) (if e1 then true else r1) := fun prog w E Q h =>
  richCompare_meets_room (op := .Gt) ⟨_, hl, rfl⟩ ⟨_, hb, rfl⟩ PySem.F.slot_tuple_gt PySem.F.entry_tuple_gt (PySem.F.args_tuple_gt_2 _ _) (tupGt21 l b p1 p2 q1 e1 r1) ⟨hl, hb, h1, h2, show Value.bool _ ≠ Value.notImplemented ∧ Q _ s from ⟨(fun x => nomatch x), h⟩⟩ hu
theorem RcOp.gtInt (a b : Int) (t u : Tok) : RcOp .Gt A s (.int a t) (.int b u) (decide (a > b)) := fun prog w E Q h => (gt_int h : wpAny (model prog w) A (compareOp .Gt (.int a t) (.int b u)) Q E s)
theorem RcOp.ltInt (a b : Int) (t u : Tok) : RcOp .Lt A s (.int a t) (.int b u) (decide (a < b)) := fun prog w E Q h => (lt_int h : wpAny (model prog w) A (compareOp .Lt (.int a t) (.int b u)) Q E s)
end

section
variable {prog : Program} {w : World} {A : Around} {E : Value → Shared → Prop} {s : Shared} {env : Env}

/-- a for-loop over a list that stands, any frame (its iterable has just been evaluated) -/
theorem forLs {α : Type} {RA : Value → α → Prop} {X : List α} {l : Addr} {vs : List Value} {n : Nat} {x : Str} {px : Pos} {body : List Stmt} {Q : Flow → Shared → Prop} (hh : A.handled = none)
    (hl : s.heap.get? l = some (listOf vs.toArray n)) (ha : All2 RA vs X)
    (J : Addr → Nat → Shared → Prop) (hJ : ∀ it k s₁ s₂, s.heap.get? it = none → J it k s₁ → ExL it s₁ s₂ → J it k s₂) (h0 : ∀ it s₁, s.heap.get? it = none → Grow s s₁ → J it 0 s₁)
    (turn : ∀ it k v s₁ (hk : k < X.length), s.heap.get? it = none → it ≠ l → s₁.heap.get? it ≠ none → RA v X[k] → J it k s₁ →
      wpAny (model prog w) A (storeName env x v) (fun _ s₂ => wpAny (model prog w) A (execs body env) (fun f s₃ => (f = .next ∧ Stay [it, l] s₁.heap s₃.heap ∧ J it (k + 1) s₃) ∨ ∃ v, f = .ret v ∧ Q (.ret v) s₃) No s₂) No s₁)
    (hQ : ∀ it s', s.heap.get? it = none → J it X.length s' → Q .next s') :
    wpAny (model prog w) A (pyIter (.ref l)) (fun it s₂ => codeAny (model prog w) A (.forLoop (.Name x px) it body [] env) (fun r s' => match r with | .ok f => Q f s' | .error e => cameBackBy (model prog w) A env E e s') s₂) E s := by
  refine wpAny_mono (srcListF (E := E) (.refl s) hl ha) (fun itv s₂ h₂ => ?_) fun _ _ e => e
  obtain ⟨it, V, P, rfl, S⟩ := h₂
  have ni := S.ni
  have il : it ≠ l := fun q => by rw [q, hl] at ni; cases ni
  refine forIt (R := fun r s' => match r with | .ok f => Q f s' | .error e => cameBackBy (model prog w) A env E e s') S.D hh S.p0 (fun k s₁ => J it k s₁) (fun k s₁ s₂ j g => hJ it k s₁ s₂ ni j g) (h0 it s₂ ni S.g) ?_ fun s' j => hQ it s' ni j
  intro k v s₁ hk hv hp j
  exact turn it k v s₁ hk ni il (S.D.there hp) (S.ra k v hk hv) j

/-- xs[:k] of what e gives -/
theorem sliceTo {e : Expr} {p1 p pos : Pos} {k kc : Nat} {Q : Value → Shared → Prop}
    (h : wpAny (model prog w) A (eval e env) (fun v s₁ => ∃ (D : Addr) (vs : List Value) (j : Nat), v = .ref D ∧ s₁.heap.get? D = some (listOf vs.toArray j) ∧ vs.length < 1000000 ∧ ∀ s' B, Grow s₁ s' → s₁.heap.get? B = none → s'.heap.get? B = some (listOf (vs.take k).toArray 0) → Q (.ref B) s') E s) :
    wpAny (model prog w) A (eval (.Subscript e (.Slice none (some (.Constant (.int (k : Nat)) kc p1)) none p) pos) env) Q E s := by
  refine Subscript_ (wpAny_mono h (fun v s₁ h₁ => ?_) fun _ _ e => e)
  obtain ⟨D, vs, j, rfl, hD, hz, hq⟩ := h₁
  refine wpAny_Slice ?_
  rw [evalPart_some]
  simp only [evalPart_none]
  refine wpAny_pure (EvI.const.use fun s₂ t g₂ => wpAny_pure ?_)
  have g₃ : Grow s₂ { s₂ with heap := s₂.heap.push { cls := .type "slice", data := .fields #[.none, .int (k : Nat) t, .none] } } := ⟨fun _ _ e => Heap.get?_push_of_some _ e, rfl, rfl⟩
  have g := g₂.trans g₃
  have hL := isL (g.keep _ _ hD)
  refine tail_any hL.typeIs slot_list_getitem.lookup (wpAny_getItem_list_slice hL (Heap.IsSliceOf.new ..) .none (.int _ _) .none (by simp) ?_ (by rw [List.size_toArray, sizeLine_eq]; omega)) rfl
  have e : slicePick vs.toArray none (some (k : Int)) none = (vs.take k).toArray := by rw [slicePick_upto']
  rw [e]
  refine hq _ _ ⟨fun _ _ e => Heap.get?_push_of_some _ (g.keep _ _ e), g.os, g.gens⟩ ?_ (Heap.get?_push_size _ rfl)
  cases q : s₁.heap.get? (s₂.heap.push { cls := .type "slice", data := .fields #[.none, .int (k : Nat) t, .none] }).objs.size with
  | none => rfl
  | some o => exact absurd (Heap.lt_size (g.keep _ _ q)) (Nat.lt_irrefl _)

/-- a + b of two lists -/
theorem addLists {a b : Addr} {vs us : List Value} {i j : Nat} {Q : Value → Shared → Prop} (ha : s.heap.get? a = some (listOf vs.toArray i)) (hb : s.heap.get? b = some (listOf us.toArray j)) (hz : vs.length + us.length < 1000000)
    (h : ∀ s' D, Grow s s' → s.heap.get? D = none → s'.heap.get? D = some (listOf (vs ++ us).toArray 0) → Q (.ref D) s') : wpAny (model prog w) A (binaryOp .Add (.ref a) (.ref b)) Q E s := by
  refine PySem.P.add_list ha hb (h _ _ ⟨fun _ _ e => Heap.get?_push_of_some _ e, rfl, rfl⟩ (Heap.get?_none_of_le (Nat.le_refl _)) ?_) (by rw [List.size_toArray, List.size_toArray, sizeLine_eq]; omega)
  refine (Heap.get?_push_size s.heap rfl).trans ?_
  have : vs.toArray ++ us.toArray = (vs ++ us).toArray := by simp
  rw [this]
end

/-! what each answer holds, for lists in order -/
def incl (p : Option Int) (a : Int) (B : List Int) : Bool := !(B.contains a) && (p != some a || B.all fun b => decide (b < a))
def due {α : Type} (key : α → Int) (B : List Int) : Option Int → List α → List α
  | _, [] => []
  | p, a :: A => if incl p (key a) B then a :: due key B (some (key a)) A else due key B (some (key a)) A
def lastK {α : Type} (key : α → Int) (p : Option Int) (A : List α) : Option Int := match A.getLast? with
  | some b => some (key b)
  | none => p

section
variable {α : Type} {key : α → Int} {B B' : List Int} {x : Int}

theorem due_snoc (a : α) : ∀ (A : List α) (p : Option Int), due key B p (A ++ [a]) = due key B p A ++ if incl (lastK key p A) (key a) B then [a] else []
  | [], p => by show (if incl p (key a) B = true then [a] else []) = [] ++ _; rw [List.nil_append]; rfl
  | b :: A, p => by
    have e : lastK key (some (key b)) A = lastK key p (b :: A) := by
      unfold lastK
      cases A with
      | nil => rfl
      | cons c A => rw [List.getLast?_cons_cons]; rfl
    rw [List.cons_append, due, due, due_snoc a A, e]
    split <;> simp

theorem due_skip (h : incl (some x) x B = false) : ∀ A : List α, due key B (some x) A = due key B (some x) (A.dropWhile fun z => key z == x)
  | [] => rfl
  | a :: A => by
    rw [List.dropWhile_cons]
    by_cases e : key a = x
    · rw [if_pos (by simpa using e), due, e, h, if_neg (by decide)]
      exact due_skip h A
    · rw [if_neg (by simpa using e)]
theorem due_prev (A : List α) (h : ∀ a ∈ A, x < key a) : due key B (some x) A = due key B none A := by
  cases A with
  | nil => rfl
  | cons a A =>
    have hx := h a (.head _)
    have e : incl (some x) (key a) B = incl none (key a) B := by
      unfold incl
      have : (some x != some (key a)) = true := by simp; omega
      rw [this]; rfl
    rw [due, due, e]
theorem due_congr : ∀ (A : List α) (p : Option Int), (∀ a ∈ A, ∀ p, incl p (key a) B = incl p (key a) B') → due key B p A = due key B' p A
  | [], _, _ => rfl
  | a :: A, p, h => by rw [due, due, h a (.head _) p, due_congr A _ fun b hb => h b (.tail _ hb)]
theorem incl_congr {a : Int} (h1 : B.contains a = B'.contains a) (h2 : (B.all fun b => decide (b < a)) = B'.all fun b => decide (b < a)) (p : Option Int) : incl p a B = incl p a B' := by
  unfold incl; rw [h1, h2]

abbrev Srt (key : α → Int) (l : List α) : Prop := l.Pairwise fun x y => key x ≤ key y

theorem rest_gt {x : α} {xs : List α} (h : Srt key (x :: xs)) : ∀ a ∈ xs.dropWhile (fun z => key z == key x), key x < key a := by
  have h' := List.pairwise_cons.mp h
  intro a ha
  have hle := h'.1 a ((List.dropWhile_sublist _).subset ha)
  have sd : Srt key (xs.dropWhile fun z => key z == key x) := h'.2.sublist (List.dropWhile_sublist _)
  cases hd : xs.dropWhile (fun z => key z == key x) with
  | nil => rw [hd] at ha; cases ha
  | cons b bs =>
    have hb : ¬ (key b == key x) = true := by
      have := List.head?_dropWhile_not (fun z => key z == key x) xs
      rw [hd] at this
      simpa using this
    have hb' : key b ≠ key x := by simpa using hb
    have hbx := h'.1 b ((List.dropWhile_sublist _).subset (by rw [hd]; exact .head _))
    rw [hd] at ha sd
    rcases List.mem_cons.mp ha with rfl | ha
    · omega
    · have := (List.pairwise_cons.mp sd).1 a ha
      omega
theorem split_run {x : α} (xs : List α) : ∃ n, (xs.map key) = List.replicate n (key x) ++ (xs.dropWhile fun z => key z == key x).map key := by
  induction xs with
  | nil => exact ⟨0, rfl⟩
  | cons a xs ih =>
    rw [List.dropWhile_cons]
    by_cases e : key a = key x
    · obtain ⟨n, hn⟩ := ih
      rw [if_pos (by simpa using e)]
      exact ⟨n + 1, by rw [List.map_cons, e, hn]; rfl⟩
    · rw [if_neg (by simpa using e)]
      exact ⟨0, rfl⟩
theorem run_contains {x : α} {xs : List α} {b : Int} (hb : b ≠ key x) : ((x :: xs).map key).contains b = ((xs.dropWhile fun z => key z == key x).map key).contains b := by
  obtain ⟨n, hn⟩ := split_run (key := key) (x := x) xs
  rw [List.map_cons, hn, List.contains_cons]
  have e1 : (b == key x) = false := by simpa using hb
  rw [e1, Bool.false_or]
  rw [Bool.eq_iff_iff]
  simp only [List.contains_iff_mem, List.mem_append, List.mem_replicate]
  constructor
  · rintro (h | h)
    · exact absurd h.2 hb
    · exact h
  · exact .inr
theorem run_all {x : α} {xs : List α} {b : Int} (hb : key x < b) : (((x :: xs).map key).all fun c => decide (c < b)) = ((xs.dropWhile fun z => key z == key x).map key).all fun c => decide (c < b) := by
  obtain ⟨n, hn⟩ := split_run (key := key) (x := x) xs
  rw [List.map_cons, hn, List.all_cons, List.all_append, decide_eq_true hb, Bool.true_and]
  have : ((List.replicate n (key x)).all fun c => decide (c < b)) = true := by
    rw [List.all_eq_true]
    intro c hc
    rw [(List.mem_replicate.mp hc).2]
    simpa using hb
  rw [this, Bool.true_and]
theorem run_incl {x : α} {xs : List α} {b : Int} (hb : key x < b) (p : Option Int) : incl p b ((x :: xs).map key) = incl p b ((xs.dropWhile fun z => key z == key x).map key) :=
  incl_congr (run_contains (by omega)) (run_all hb) p

theorem plainDue : ∀ (N : Nat) (X Y : List α), X.length + Y.length ≤ N → Srt key X → Srt key Y →
    sld (fun a b => some (decide (key a < key b))) (fun a b => decide (key a > key b)) (fun a b => key a == key b) X Y = some (due key (Y.map key) none X, due key (X.map key) none Y) := by
  have dueNil : ∀ (l : List α) (p : Option Int), due key [] p l = l := by
    intro l
    induction l with
    | nil => intro p; rfl
    | cons a l ih => intro p; rw [due, if_pos (by simp [incl]), ih]
  intro N
  induction N with
  | zero =>
    intro X Y h _ _
    cases X with
    | nil => cases Y with
      | nil => rw [sld_nil]; rfl
      | cons _ _ => simp at h
    | cons _ _ => simp at h
  | succ N ih =>
    intro X Y h sX sY
    cases X with
    | nil => rw [sld_nil, List.map_nil, dueNil]; rfl
    | cons x xs => cases Y with
      | nil => rw [sld_nil', List.map_nil, dueNil]; rfl
      | cons y ys =>
        rw [sld_cons]
        have l1 := dropWhile_len (fun z => key z == key x) xs
        have l2 := dropWhile_len (fun z => key z == key y) ys
        have sX' := List.pairwise_cons.mp sX
        have sY' := List.pairwise_cons.mp sY
        have r1 : Srt key (xs.dropWhile fun z => key z == key x) := sX'.2.sublist (List.dropWhile_sublist _)
        have r2 : Srt key (ys.dropWhile fun z => key z == key y) := sY'.2.sublist (List.dropWhile_sublist _)
        have g1 := rest_gt sX
        have g2 := rest_gt sY
        simp only [List.length_cons] at h
        have mY : ∀ b ∈ (y :: ys).map key, key y ≤ b := by
          intro b hb
          obtain ⟨c, hc, rfl⟩ := List.mem_map.mp hb
          rcases List.mem_cons.mp hc with rfl | hc
          · exact Int.le_refl _
          · exact sY'.1 c hc
        have mX : ∀ b ∈ (x :: xs).map key, key x ≤ b := by
          intro b hb
          obtain ⟨c, hc, rfl⟩ := List.mem_map.mp hb
          rcases List.mem_cons.mp hc with rfl | hc
          · exact Int.le_refl _
          · exact sX'.1 c hc
        have below : ∀ {p : Option Int} {z : α} {zs : List α} {c : Int}, c < key z → (∀ b ∈ (z :: zs).map key, key z ≤ b) → incl p c ((z :: zs).map key) = (p != some c) := by
          intro p z zs c hc hm
          unfold incl
          have e1 : ((z :: zs).map key).contains c = false := by
            rw [Bool.eq_false_iff]
            intro q
            have := hm c (List.contains_iff_mem.mp q)
            omega
          have e2 : (((z :: zs).map key).all fun b => decide (b < c)) = false := by
            rw [List.map_cons, List.all_cons, decide_eq_false (by omega), Bool.false_and]
          rw [e1, e2]; simp
        have same : ∀ {p : Option Int} {z : α} {zs : List α} {c : Int}, c = key z → incl p c ((z :: zs).map key) = false := by
          intro p z zs c hc
          unfold incl
          rw [List.map_cons, List.contains_cons, hc]; simp
        by_cases hlt : key x < key y
        · rw [decide_eq_true hlt]
          dsimp only
          rw [ih _ _ (by simp only [List.length_cons]; omega) r1 sY]
          have e1 : due key ((y :: ys).map key) none (x :: xs) = x :: due key ((y :: ys).map key) none (xs.dropWhile fun z => key z == key x) := by
            rw [due, below hlt mY, if_pos (by simp), due_skip (by rw [below hlt mY]; simp), due_prev _ g1]
          have e2 : due key ((x :: xs).map key) none (y :: ys) = due key ((xs.dropWhile fun z => key z == key x).map key) none (y :: ys) :=
            due_congr _ _ fun b hb p => run_incl (by have := mY (key b) (List.mem_map.mpr ⟨b, hb, rfl⟩); omega) p
          rw [e1, e2]; rfl
        · rw [decide_eq_false hlt]
          dsimp only
          by_cases hgt : key x > key y
          · rw [decide_eq_true hgt, if_pos rfl, ih _ _ (by simp only [List.length_cons]; omega) sX r2]
            have e1 : due key ((x :: xs).map key) none (y :: ys) = y :: due key ((x :: xs).map key) none (ys.dropWhile fun z => key z == key y) := by
              rw [due, below hgt mX, if_pos (by simp), due_skip (by rw [below hgt mX]; simp), due_prev _ g2]
            have e2 : due key ((y :: ys).map key) none (x :: xs) = due key ((ys.dropWhile fun z => key z == key y).map key) none (x :: xs) :=
              due_congr _ _ fun b hb p => run_incl (by have := mX (key b) (List.mem_map.mpr ⟨b, hb, rfl⟩); omega) p
            rw [e1, e2]; rfl
          · have heq : key x = key y := by omega
            rw [decide_eq_false hgt, if_neg (by decide), ih _ _ (by omega) r1 r2]
            have e1 : due key ((y :: ys).map key) none (x :: xs) = due key ((ys.dropWhile fun z => key z == key y).map key) none (xs.dropWhile fun z => key z == key x) := by
              rw [due, same heq, if_neg (by decide), due_skip (same heq), due_prev _ g1]
              exact due_congr _ _ fun b hb p => run_incl (by have := g1 b hb; omega) p
            have e2 : due key ((x :: xs).map key) none (y :: ys) = due key ((xs.dropWhile fun z => key z == key x).map key) none (ys.dropWhile fun z => key z == key y) := by
              rw [due, same heq.symm, if_neg (by decide), due_skip (same heq.symm), due_prev _ g2]
              exact due_congr _ _ fun b hb p => run_incl (by have := g2 b hb; omega) p
            rw [e1, e2]
end

abbrev pg3 : Program := PySem.Challenge.pw_dn0234_03

/-- an item: a number, a text (k times the sign c), a pair -/
inductive It
  | num (n : Int)
  | txt (c k : Nat)
  | pr (a b : Int)
def It.kind : It → Nat
  | .num _ => 0
  | .txt .. => 1
  | .pr .. => 2
def word (c k : Nat) : Str := ⟨(List.replicate k (97 + c)).toArray⟩
/-- within bounds -/
def It.ok (M : Int) : It → Prop
  | .num n => -M ≤ n ∧ n ≤ M
  | .txt c k => c < 4 ∧ 1 ≤ k ∧ k ≤ 3
  | .pr a b => 0 ≤ a ∧ a ≤ 2 ∧ -M ≤ b ∧ b ≤ M
/-- a rank that tells the kinds apart -/
def It.rk (M : Int) : It → Int
  | .num n => n
  | .txt c k => 10 * M + 100 + 4 * (c : Int) + (k : Int)
  | .pr a b => 30 * M + 300 + (if a = 0 then 0 else if a = 1 then 3 * M + 10 else 6 * M + 20) + b

def It.lt : It → It → Bool
  | .num n, .num m => decide (n < m)
  | .txt c k, .txt c' k' => decide (c < c') || (decide (c = c') && decide (k < k'))
  | .pr a b, .pr a' b' => decide (a < a') || (decide (a = a') && decide (b < b'))
  | _, _ => false
def It.beq : It → It → Bool
  | .num n, .num m => n == m
  | .txt c k, .txt c' k' => c == c' && k == k'
  | .pr a b, .pr a' b' => a == a' && b == b'
  | _, _ => false

theorem rk_lt {M : Int} {x y : It} (h0 : 0 ≤ M) (hx : x.ok M) (hy : y.ok M) (hk : x.kind = y.kind) : x.lt y = decide (x.rk M < y.rk M) := by
  rw [Bool.eq_iff_iff, decide_eq_true_iff]
  cases x <;> cases y <;> simp only [It.kind] at hk <;> first | (exact absurd hk (by decide)) | skip
  · simp only [It.lt, It.rk, decide_eq_true_eq]
  · simp only [It.ok, It.lt, It.rk, Bool.or_eq_true, Bool.and_eq_true, decide_eq_true_eq] at *
    omega
  · simp only [It.ok, It.lt, It.rk, Bool.or_eq_true, Bool.and_eq_true, decide_eq_true_eq] at *
    split <;> split <;> (try split) <;> (try split) <;> omega
theorem rk_eq {M : Int} {x y : It} (h0 : 0 ≤ M) (hx : x.ok M) (hy : y.ok M) : x.beq y = (x.rk M == y.rk M) := by
  cases x <;> cases y <;> simp only [It.ok, It.beq, It.rk] at * <;> rw [Bool.eq_iff_iff] <;> simp
  all_goals (try split) <;> (try split) <;> (try split) <;> (try split) <;> omega
theorem rk_kind {M : Int} {x y : It} (h0 : 0 ≤ M) (hx : x.ok M) (hy : y.ok M) (h : x.kind < y.kind) : x.rk M < y.rk M := by
  cases x <;> cases y <;> simp only [It.kind] at h <;> first | (exact absurd h (by decide)) | skip
  all_goals
    simp only [It.ok, It.rk] at *
    (try split) <;> (try split) <;> omega

theorem word_lt' : ∀ (c k c' k' : Fin 4), 1 ≤ k.1 → 1 ≤ k'.1 → decide ((List.replicate k.1 (97 + c.1)) < (List.replicate k'.1 (97 + c'.1))) = (decide (c.1 < c'.1) || (decide (c.1 = c'.1) && decide (k.1 < k'.1))) := by decide
theorem word_eq' : ∀ (c k c' k' : Fin 4), 1 ≤ k.1 → 1 ≤ k'.1 → ((List.replicate k.1 (97 + c.1)) == (List.replicate k'.1 (97 + c'.1))) = (c.1 == c'.1 && k.1 == k'.1) := by decide
theorem word_lt (c : Nat) (hc : c < 4) (k : Nat) (hk : k < 4) (c' : Nat) (hc' : c' < 4) (k' : Nat) (hk' : k' < 4) (h : 1 ≤ k) (h' : 1 ≤ k') : decide ((List.replicate k (97 + c)) < (List.replicate k' (97 + c'))) = (decide (c < c') || (decide (c = c') && decide (k < k'))) :=
  word_lt' ⟨c, hc⟩ ⟨k, hk⟩ ⟨c', hc'⟩ ⟨k', hk'⟩ h h'
theorem word_eq (c : Nat) (hc : c < 4) (k : Nat) (hk : k < 4) (c' : Nat) (hc' : c' < 4) (k' : Nat) (hk' : k' < 4) (h : 1 ≤ k) (h' : 1 ≤ k') : ((List.replicate k (97 + c)) == (List.replicate k' (97 + c'))) = (c == c' && k == k') :=
  word_eq' ⟨c, hc⟩ ⟨k, hk⟩ ⟨c', hc'⟩ ⟨k', hk'⟩ h h'

/-- how an item, and a key, lie in the heap -/
def RepT (h : Heap) (v : Value) : It → Prop
  | .num n => ∃ t, v = .int n t
  | .txt c k => ∃ t, v = .str (word c k) t
  | .pr a b => ∃ p t u, v = .ref p ∧ h.get? p = some (tupOf [.int a t, .int b u])
def RepK (h : Heap) (v : Value) (x : It) : Prop := ∃ p t iv, v = .ref p ∧ h.get? p = some (tupOf [.int (x.kind : Nat) t, iv]) ∧ RepT h iv x

section
variable {A : Around} {s : Shared} {u v : Value} {x y : It} {M : Int}

theorem eqT (hx : x.ok M) (hy : y.ok M) (ru : RepT s.heap u x) (rv : RepT s.heap v y) (hu : A.units + 2 < cLine) : EqAt A s u v (x.beq y) := by
  have u1 : A.units < cLine := by omega
  cases x with
  | num n =>
    obtain ⟨t, rfl⟩ := ru
    cases y with
    | num m => obtain ⟨t', rfl⟩ := rv; exact EqAt.int_int n t m t'
    | txt c k => obtain ⟨t', rfl⟩ := rv; exact EqAt.int_str n t _ t'
    | pr a b => obtain ⟨p, t1, t2, rfl, hp⟩ := rv; exact EqAt.int_tuple (items := [.int a t1, .int b t2].toArray) n t ⟨_, hp, rfl, _, rfl⟩ u1
  | txt c k =>
    obtain ⟨t, rfl⟩ := ru
    cases y with
    | num m => obtain ⟨t', rfl⟩ := rv; exact EqAt.str_int _ t m t'
    | txt c' k' =>
      obtain ⟨t', rfl⟩ := rv
      have := EqAt.str_str (A := A) (s := s) (word c k) t (word c' k') t'
      have e : (word c k == word c' k') = (c == c' && k == k') := by
        rw [← word_eq c hx.1 k (by have := hx.2.2; omega) c' hy.1 k' (by have := hy.2.2; omega) hx.2.1 hy.2.1]
        rw [Bool.eq_iff_iff]
        simp [word]
      rw [e] at this; exact this
    | pr a b => obtain ⟨p, t1, t2, rfl, hp⟩ := rv; exact EqAt.str_tuple (items := [.int a t1, .int b t2].toArray) _ t ⟨_, hp, rfl, _, rfl⟩ u1
  | pr a b =>
    obtain ⟨p, t1, t2, rfl, hp⟩ := ru
    cases y with
    | num m => obtain ⟨t', rfl⟩ := rv; exact EqAt.tuple_int (items := [.int a t1, .int b t2].toArray) m t' ⟨_, hp, rfl, _, rfl⟩ u1
    | txt c' k' => obtain ⟨t', rfl⟩ := rv; exact EqAt.tuple_str (items := [.int a t1, .int b t2].toArray) _ t' ⟨_, hp, rfl, _, rfl⟩ u1
    | pr a' b' =>
      obtain ⟨p', t3, t4, rfl, hp'⟩ := rv
      by_cases e : p = p'
      · subst e
        rw [hp] at hp'
        have : a = a' ∧ b = b' := by
          simp [tupOf] at hp'
          exact ⟨hp'.1.1, hp'.2.1⟩
        rw [show It.beq (.pr a b) (.pr a' b') = true by simp [It.beq, this]]
        exact EqAt.same _
      · have := RcAt.tuples (A := A) (s := s) (e := fun j => if j = 0 then a == a' else b == b') (l := p) (b := p') (items := [.int a t1, .int b t2].toArray) (items2 := [.int a' t3, .int b' t4].toArray) ⟨_, hp, rfl, _, rfl⟩ ⟨_, hp', rfl, _, rfl⟩ u1 (fun j h1 h2 => by
          match j, h1 with
          | 0, _ => exact EqAt.int_int a t1 a' t3
          | 1, _ => exact EqAt.int_int b t2 b' t4)
        refine EqAt.of_refs e ?_
        have e2 : (((List.range (min [Value.int a t1, .int b t2].toArray.size [Value.int a' t3, .int b' t4].toArray.size)).all fun j => if j = 0 then a == a' else b == b') && [Value.int a t1, .int b t2].toArray.size == [Value.int a' t3, .int b' t4].toArray.size) = It.beq (.pr a b) (.pr a' b') := by
          show ((a == a') && ((b == b') && true) && true) = ((a == a') && (b == b'))
          simp
        rw [e2] at this; exact this
end

section
variable {A : Around} {s : Shared} {u v : Value} {x y : It} {M : Int}

theorem It.lt_asym_pr {a b a' b' : Int} : (if (a == a') = true then (if (b == b') = true then false else decide (b < b')) else decide (a < a')) = It.lt (.pr a b) (.pr a' b') := by
  rw [Bool.eq_iff_iff]
  by_cases h1 : a = a'
  · by_cases h2 : b = b'
    · subst h1 h2; simp [It.lt]
    · have : (b == b') = false := by simpa using h2
      subst h1; simp [It.lt, this]
  · have : (a == a') = false := by simpa using h1
    simp [It.lt, this, h1]
theorem It.gt_pr {a b a' b' : Int} : (if (a == a') = true then (if (b == b') = true then false else decide (b > b')) else decide (a > a')) = It.lt (.pr a' b') (.pr a b) := by
  rw [Bool.eq_iff_iff]
  by_cases h1 : a = a'
  · by_cases h2 : b = b'
    · subst h1 h2; simp [It.lt]
    · have : (b == b') = false := by simpa using h2
      subst h1; simp [It.lt, this]
  · have : (a == a') = false := by simpa using h1
    have h1' : ¬ a' = a := fun q => h1 q.symm
    simp [It.lt, this, h1']

theorem ltT (hx : x.ok M) (hy : y.ok M) (hk : x.kind = y.kind) (ru : RepT s.heap u x) (rv : RepT s.heap v y) (hu : A.units + 2 < cLine) : RcOp .Lt A s u v (x.lt y) := by
  cases x <;> cases y <;> simp only [It.kind] at hk <;> first | (exact absurd hk (by decide)) | skip
  · obtain ⟨t, rfl⟩ := ru
    obtain ⟨t', rfl⟩ := rv
    exact RcOp.ltInt _ _ t t'
  · rename_i c k c' k'
    obtain ⟨t, rfl⟩ := ru
    obtain ⟨t', rfl⟩ := rv
    intro prog w E Q h
    refine (PyProof.Rows.lt_str ?_ : wpAny (model prog w) A (compareOp .Lt _ _) Q E s)
    have e : decide ((word c k).cps.toList < (word c' k').cps.toList) = It.lt (.txt c k) (.txt c' k') :=
      word_lt c hx.1 k (by have := hx.2.2; omega) c' hy.1 k' (by have := hy.2.2; omega) hx.2.1 hy.2.1
    rw [e]; exact h
  · rename_i a b a' b'
    obtain ⟨p, t1, t2, rfl, hp⟩ := ru
    obtain ⟨p', t3, t4, rfl, hp'⟩ := rv
    rw [← It.lt_asym_pr]
    exact RcOp.lt22 hp hp' (by omega) (EqAt.int_int a t1 a' t3) (fun _ => RcOp.ltInt _ _ _ _) (fun _ => EqAt.int_int b t2 b' t4) (fun _ _ => RcOp.ltInt _ _ _ _)
theorem gtT (hx : x.ok M) (hy : y.ok M) (hk : x.kind = y.kind) (ru : RepT s.heap u x) (rv : RepT s.heap v y) (hu : A.units + 2 < cLine) : RcOp .Gt A s u v (y.lt x) := by
  cases x <;> cases y <;> simp only [It.kind] at hk <;> first | (exact absurd hk (by decide)) | skip
  · obtain ⟨t, rfl⟩ := ru
    obtain ⟨t', rfl⟩ := rv
    exact RcOp.gtInt _ _ t t'
  · rename_i c k c' k'
    obtain ⟨t, rfl⟩ := ru
    obtain ⟨t', rfl⟩ := rv
    intro prog w E Q h
    refine (PySem.P.gt_str ?_ : wpAny (model prog w) A (compareOp .Gt _ _) Q E s)
    have e : decide ((word c' k').cps.toList < (word c k).cps.toList) = It.lt (.txt c' k') (.txt c k) :=
      word_lt c' hy.1 k' (by have := hy.2.2; omega) c hx.1 k (by have := hx.2.2; omega) hy.2.1 hx.2.1
    rw [e]; exact h
  · rename_i a b a' b'
    obtain ⟨p, t1, t2, rfl, hp⟩ := ru
    obtain ⟨p', t3, t4, rfl, hp'⟩ := rv
    rw [← It.gt_pr]
    exact RcOp.gt22 hp hp' (by omega) (EqAt.int_int a t1 a' t3) (fun _ => RcOp.gtInt _ _ _ _) (fun _ => EqAt.int_int b t2 b' t4) (fun _ _ => RcOp.gtInt _ _ _ _)
end

theorem word_inj {c k c' k' : Nat} (hc : c < 4) (hk : 1 ≤ k) (hk4 : k ≤ 3) (hc' : c' < 4) (hk' : 1 ≤ k') (hk4' : k' ≤ 3) (h : word c k = word c' k') : c = c' ∧ k = k' := by
  have := word_eq c hc k (by omega) c' hc' k' (by omega) hk hk'
  have e : (List.replicate k (97 + c)) = (List.replicate k' (97 + c')) := by
    have := congrArg (fun s : Str => s.cps.toList) h
    simpa [word] using this
  rw [e] at this
  simpa using this.symm

theorem repT_inj {h : Heap} {v : Value} {x y : It} {M : Int} (hx : x.ok M) (hy : y.ok M) (rx : RepT h v x) (ry : RepT h v y) : x = y := by
  cases x with
  | num n =>
    obtain ⟨t, rfl⟩ := rx
    cases y with
    | num m => obtain ⟨t', e⟩ := ry; cases e; rfl
    | txt c k => obtain ⟨t', e⟩ := ry; cases e
    | pr a b => obtain ⟨p, t1, t2, e, _⟩ := ry; cases e
  | txt c k =>
    obtain ⟨t, rfl⟩ := rx
    cases y with
    | num m => obtain ⟨t', e⟩ := ry; cases e
    | txt c' k' =>
      obtain ⟨t', e⟩ := ry
      have e' : word c k = word c' k' := by injection e
      obtain ⟨rfl, rfl⟩ := word_inj hx.1 hx.2.1 hx.2.2 hy.1 hy.2.1 hy.2.2 e'
      rfl
    | pr a b => obtain ⟨p, t1, t2, e, _⟩ := ry; cases e
  | pr a b =>
    obtain ⟨p, t1, t2, rfl, hp⟩ := rx
    cases y with
    | num m => obtain ⟨t', e⟩ := ry; cases e
    | txt c' k' => obtain ⟨t', e⟩ := ry; cases e
    | pr a' b' =>
      obtain ⟨p', t3, t4, e, hp'⟩ := ry
      cases e
      rw [hp] at hp'
      simp [tupOf] at hp'
      rw [hp'.1.1, hp'.2.1]
theorem repK_inj {h : Heap} {v : Value} {x y : It} {M : Int} (hx : x.ok M) (hy : y.ok M) (rx : RepK h v x) (ry : RepK h v y) : x = y := by
  obtain ⟨p, t, iv, rfl, hp, r⟩ := rx
  obtain ⟨p', t', iv', e, hp', r'⟩ := ry
  cases e
  rw [hp] at hp'
  simp [tupOf] at hp'
  obtain ⟨_, rfl⟩ := hp'
  exact repT_inj hx hy r r'
theorem RepT.keep {h h' : Heap} {v : Value} {x : It} (r : RepT h v x) (k : ∀ b o, h.get? b = some o → h'.get? b = some o) : RepT h' v x := by
  cases x with
  | num n => exact r
  | txt c k => exact r
  | pr a b => obtain ⟨p, t1, t2, rfl, hp⟩ := r; exact ⟨p, t1, t2, rfl, k _ _ hp⟩
theorem RepK.keep {h h' : Heap} {v : Value} {x : It} (r : RepK h v x) (k : ∀ b o, h.get? b = some o → h'.get? b = some o) : RepK h' v x := by
  obtain ⟨p, t, iv, rfl, hp, r⟩ := r
  exact ⟨p, t, iv, rfl, k _ _ hp, r.keep k⟩
theorem It.beq_self {x : It} : x.beq x = true := by cases x <;> simp [It.beq]
theorem It.lt_irr {x : It} : x.lt x = false := by cases x <;> simp [It.lt]

section
variable {prog : Program} {w : World} {A : Around} {E : Value → Shared → Prop} {s : Shared} {u v : Value} {x y : It} {M : Int}

theorem eqK (hx : x.ok M) (hy : y.ok M) (ru : RepK s.heap u x) (rv : RepK s.heap v y) (hu : A.units + 6 < cLine) : EqAt A s u v (x.beq y) := by
  by_cases e : u = v
  · subst e
    have := repK_inj hx hy ru rv
    subst this
    rw [It.beq_self]
    exact EqAt.same _
  obtain ⟨p, t, iv, rfl, hp, r⟩ := ru
  obtain ⟨p', t', iv', rfl, hp', r'⟩ := rv
  have ne : p ≠ p' := fun q => e (q ▸ rfl)
  have := RcAt.tuples (A := A) (s := s) (e := fun j => if j = 0 then ((x.kind : Int) == (y.kind : Int)) else x.beq y) (l := p) (b := p') (items := [.int (x.kind : Nat) t, iv].toArray) (items2 := [.int (y.kind : Nat) t', iv'].toArray) ⟨_, hp, rfl, _, rfl⟩ ⟨_, hp', rfl, _, rfl⟩ (by omega) (fun j h1 h2 => by
    match j, h1 with
    | 0, _ => exact EqAt.int_int _ t _ t'
    | 1, _ => exact eqT hx hy r r' (by show A.units + 1 + 2 < cLine; omega))
  refine EqAt.of_refs ne ?_
  have e2 : (((List.range (min [Value.int (x.kind : Nat) t, iv].toArray.size [Value.int (y.kind : Nat) t', iv'].toArray.size)).all fun j => if j = 0 then ((x.kind : Int) == (y.kind : Int)) else x.beq y) && [Value.int (x.kind : Nat) t, iv].toArray.size == [Value.int (y.kind : Nat) t', iv'].toArray.size) = x.beq y := by
    show (((x.kind : Int) == (y.kind : Int)) && (x.beq y && true) && true) = x.beq y
    cases x <;> cases y <;> simp [It.kind, It.beq]
  rw [e2] at this; exact this

theorem rk_cmp (h0 : 0 ≤ M) (hx : x.ok M) (hy : y.ok M) : (if ((x.kind : Int) == (y.kind : Int)) = true then (if x.beq y = true then false else x.lt y) else decide ((x.kind : Int) < (y.kind : Int))) = decide (x.rk M < y.rk M) := by
  by_cases hk : x.kind = y.kind
  · rw [if_pos (by simp; omega), rk_lt h0 hx hy hk, rk_eq h0 hx hy]
    split
    · rename_i q
      have : x.rk M = y.rk M := by simpa using q
      rw [this]; simp
    · rfl
  · have hk' : ¬ ((x.kind : Int) == (y.kind : Int)) = true := by simp; omega
    rw [if_neg hk']
    rcases Nat.lt_or_gt_of_ne hk with q | q
    · have := rk_kind h0 hx hy q
      rw [decide_eq_true this, decide_eq_true (by omega)]
    · have := rk_kind h0 hy hx q
      rw [decide_eq_false (by omega), decide_eq_false (by omega)]

theorem gtK (h0 : 0 ≤ M) (hx : x.ok M) (hy : y.ok M) (ru : RepK s.heap u x) (rv : RepK s.heap v y) (hu : A.units + 6 < cLine) : RcOp .Gt A s u v (decide (x.rk M > y.rk M)) := by
  obtain ⟨p, t, iv, rfl, hp, r⟩ := ru
  obtain ⟨p', t', iv', rfl, hp', r'⟩ := rv
  have e : (if ((x.kind : Int) == (y.kind : Int)) = true then (if x.beq y = true then false else y.lt x) else decide ((x.kind : Int) > (y.kind : Int))) = decide (x.rk M > y.rk M) := by
    rw [show (decide (x.rk M > y.rk M)) = decide (y.rk M < x.rk M) from rfl, ← rk_cmp h0 hy hx]
    have e1 : ((y.kind : Int) == (x.kind : Int)) = ((x.kind : Int) == (y.kind : Int)) := Bool.beq_comm
    have e2 : y.beq x = x.beq y := by rw [rk_eq h0 hx hy, rk_eq h0 hy hx]; exact Bool.beq_comm
    rw [e1, e2]
  rw [← e]
  refine RcOp.gt22 hp hp' (by omega) (EqAt.int_int _ t _ t') (fun _ => RcOp.gtInt _ _ _ _) (fun q => eqT hx hy r r' (by show A.units + 1 + 2 < cLine; omega)) (fun q _ => gtT hx hy ?_ r r' (by show A.units + 1 + 2 < cLine; omega))
  have : (x.kind : Int) = y.kind := by simpa using q
  omega

theorem gtBot {b : Addr} {tb : Tok} (hb : s.heap.get? b = some (tupOf [.int (-1) tb])) (ru : RepK s.heap u x) (hu : A.units < cLine) : RcOp .Gt A s u (.ref b) true := by
  obtain ⟨p, t, iv, rfl, hp, r⟩ := ru
  have := RcOp.gt21 (r1 := decide ((x.kind : Int) > -1)) hp hb hu (EqAt.int_int (x.kind : Nat) t (-1) tb) (fun _ => RcOp.gtInt _ _ _ _)
  have e : (if ((x.kind : Int) == -1) = true then true else decide ((x.kind : Int) > -1)) = true := by
    split
    · rfl
    · simp; omega
  rw [e] at this; exact this

/-- keys by rank, in a sort -/
theorem keyLtK (h0 : 0 ≤ M) (hx : x.ok M) (hy : y.ok M) (ru : RepK s.heap u x) (rv : RepK s.heap v y) (hu : A.units + 6 < cLine) {Q : Bool → Shared → Prop} (h : Q (decide (x.rk M < y.rk M)) s) :
    wpAny (model prog w) A (keyLt' (tuples' true) u v) Q E s := by
  obtain ⟨p, t, iv, rfl, hp, r⟩ := ru
  obtain ⟨p', t', iv', rfl, hp', r'⟩ := rv
  rw [← rk_cmp h0 hx hy] at h
  refine kat_lt (xs := [.int (x.kind : Nat) t, iv].toArray) (ys := [.int (y.kind : Nat) t', iv'].toArray) hp rfl hp' rfl ?_
  refine kat_cons (EqAt.int_int (x.kind : Nat) t (y.kind : Nat) t' _ _ _ _ ?_)
  by_cases hk : x.kind = y.kind
  · have e1 : ((x.kind : Int) == (y.kind : Int)) = true := by simp; omega
    rw [e1] at h ⊢
    rw [if_pos rfl] at h
    refine kat_yes (kat_cons (eqT hx hy r r' (by omega) _ _ _ _ ?_))
    cases hb : x.beq y with
    | true =>
      rw [hb, if_pos rfl] at h
      exact kat_yes (kat_nil h)
    | false =>
      rw [hb, if_neg (by decide)] at h
      refine kat_no (kat_one _ _ ?_)
      exact ltT hx hy hk r r' (by omega) _ _ _ _ h
  · have e1 : ((x.kind : Int) == (y.kind : Int)) = false := by simp; omega
    rw [e1] at h ⊢
    rw [if_neg (by decide)] at h
    exact kat_no (oneLt_int h)
end

theorem katTups_of {h : Heap} {vs : List Value} {Ks : List It} (ha : All2 (RepK h) vs Ks) : ∃ fs, KatTups h vs fs ∧ fs.length = vs.length ∧ ∀ f ∈ fs, ∃ n t, f = .int n t := by
  induction ha with
  | nil => exact ⟨[], trivial, rfl, fun _ q => by cases q⟩
  | cons r _ ih =>
    obtain ⟨fs, h1, h2, h3⟩ := ih
    obtain ⟨p, t, iv, rfl, hp, _⟩ := r
    refine ⟨.int _ t :: fs, KatTups.cons (xs := #[.int _ t, iv]) (n := 0) hp rfl rfl rfl h1, by simp [h2], fun f hf => ?_⟩
    rcases List.mem_cons.mp hf with rfl | hf
    · exact ⟨_, _, rfl⟩
    · exact h3 f hf

open Classical in
noncomputable def itv (M : Int) (h : Heap) (v : Value) : It := if H : ∃ x, RepK h v x ∧ x.ok M then H.choose else .num 0
theorem itv_eq {M : Int} {h : Heap} {v : Value} {x : It} (r : RepK h v x) (hx : x.ok M) : itv M h v = x := by
  have H : ∃ x, RepK h v x ∧ x.ok M := ⟨x, r, hx⟩
  unfold itv
  rw [dif_pos H]
  exact repK_inj H.choose_spec.2 hx H.choose_spec.1 r

section
variable {prog : Program} {w : World} {A : Around} {E : Value → Shared → Prop} {s : Shared} {M : Int}

theorem all2_mem {α β : Type} {R : α → β → Prop} {as : List α} {bs : List β} (h : All2 R as bs) : ∀ a ∈ as, ∃ b ∈ bs, R a b := by
  induction h with
  | nil => intro a ha; cases ha
  | cons r _ ih =>
    intro a ha
    rcases List.mem_cons.mp ha with rfl | ha
    · exact ⟨_, .head _, r⟩
    · obtain ⟨b, hb, q⟩ := ih a ha
      exact ⟨b, .tail _ hb, q⟩
theorem all2_itv {h : Heap} {vs : List Value} {Ks : List It} (ha : All2 (RepK h) vs Ks) (ok : ∀ x ∈ Ks, x.ok M) : vs.map (itv M h) = Ks := by
  induction ha with
  | nil => rfl
  | cons r _ ih => rw [List.map_cons, itv_eq r (ok _ (.head _)), ih fun x hx => ok x (.tail _ hx)]
theorem all2_of_itv {h : Heap} : ∀ {vs : List Value}, (∀ v ∈ vs, ∃ x, RepK h v x ∧ x.ok M) → All2 (RepK h) vs (vs.map (itv M h))
  | [], _ => .nil
  | v :: vs, hh => by
    obtain ⟨x, r, hx⟩ := hh v (.head _)
    rw [List.map_cons, itv_eq r hx]
    exact .cons r (all2_of_itv fun u hu => hh u (.tail _ hu))

/-- sorted(l) of a list of keys -/
theorem sortedKeys {l : Addr} {vs : List Value} {Ks : List It} {n : Nat} {Q : Value → Shared → Prop} (h0 : 0 ≤ M) (ok : ∀ x ∈ Ks, x.ok M) (hu : A.units < 8000) (hl : s.heap.get? l = some (listOf vs.toArray n)) (ha : All2 (RepK s.heap) vs Ks) (hz : vs.length < 64)
    (h : ∀ s' D (out : List Value) (Ks' : List It) m, Grow s s' → s.heap.get? D = none → s'.heap.get? D = some (listOf out.toArray m) → All2 (RepK s'.heap) out Ks' → Ks'.Perm Ks → (Ks'.Pairwise fun x y => x.rk M ≤ y.rk M) → Q (.ref D) s') :
    wpAny (model prog w) A (call (.builtin "sorted") [.ref l]) Q E s := by
  have hv : ∀ v ∈ vs, ∃ x, RepK s.heap v x ∧ x.ok M := fun v hv => by
    obtain ⟨x, hx, r⟩ := all2_mem ha v hv
    exact ⟨x, r, ok x hx⟩
  have cl : (9000 : Nat) ≤ cLine := by decide
  refine sortedCall (κ := tuples' true) (key := fun p => (itv M s.heap p.1).rk M) (P := fun p => ∃ x, RepK s.heap p.1 x ∧ x.ok M) (collectList hl (by omega) fun s₁ g₁ => ⟨g₁, by omega, fun h2 A' s' _ g' => ?_, fun A' s' hA g' => ?_, fun x hx => hv x hx, fun s' D out m g₂ nD hD p1 p2 => ?_⟩)
  · have ha' : All2 (RepK s'.heap) vs Ks := ha.mono fun _ _ _ r => r.keep (g₁.trans g').keep
    obtain ⟨fs, t1, t2, t3⟩ := katTups_of ha'
    refine kat_kind (T := .type "int") t1 (by omega) (fun f hf => ?_) (by decide) ⟨by with_unfolding_all rfl, rfl⟩
    obtain ⟨n, t, rfl⟩ := t3 f hf
    exact Looks.of_pure rfl
  · refine ⟨fun {E Q x y} px py hq => ?_⟩
    obtain ⟨a, ra, oa⟩ := px
    obtain ⟨b, rb, ob⟩ := py
    rw [itv_eq ra oa, itv_eq rb ob] at hq
    exact keyLtK h0 oa ob (ra.keep (g₁.trans g').keep) (rb.keep (g₁.trans g').keep) (by omega) hq
  · have ho : ∀ v ∈ out, ∃ x, RepK s.heap v x ∧ x.ok M := fun v q => hv v (p1.mem_iff.mp q)
    refine h s' D out (out.map (itv M s.heap)) m (g₁.trans g₂) ?_ hD ((all2_of_itv ho).mono fun _ _ _ r => r.keep (g₁.trans g₂).keep) ?_ ?_
    · cases q : s.heap.get? D with
      | none => rfl
      | some o => rw [g₁.keep _ _ q] at nD; cases nD
    · have := p1.map (itv M s.heap)
      rwa [all2_itv ha ok] at this
    · rw [List.pairwise_map]; exact p2
end

/-! the items of the script -/
def wordK (n : Int) : Nat := (1 + (n.fdiv 4).fmod 3).toNat
def wordC (n : Int) : Nat := (n.fmod 4).toNat
def itemOf (x : Int) : It :=
  if x.fmod 3 = 0 then .num (x.fdiv 9) else if x.fmod 3 = 1 then .txt (wordC (x.fdiv 9)) (wordK (x.fdiv 9)) else .pr ((x.fdiv 9).fmod 3) ((x.fdiv 9).fdiv 3)
def inList (wh : Int) (x : Int) : Bool := (x.fdiv 3).fmod 3 == wh || (x.fdiv 3).fmod 3 == 2
def raw (wh : Int) (X : List Int) : List It := (X.filter (inList wh)).map itemOf

theorem fm3 (x : Int) : 0 ≤ x.fmod 3 ∧ x.fmod 3 < 3 := ⟨Int.fmod_nonneg_of_pos x (by decide), Int.fmod_lt_of_pos x (by decide)⟩
theorem fm4 (x : Int) : 0 ≤ x.fmod 4 ∧ x.fmod 4 < 4 := ⟨Int.fmod_nonneg_of_pos x (by decide), Int.fmod_lt_of_pos x (by decide)⟩
theorem wordC_lt (n : Int) : wordC n < 4 := by have := fm4 n; unfold wordC; omega
theorem wordK_le (n : Int) : 1 ≤ wordK n ∧ wordK n ≤ 3 := by have := fm3 (n.fdiv 4); unfold wordK; omega
theorem itemOf_kind (x : Int) : ((itemOf x).kind : Int) = x.fmod 3 := by
  have := fm3 x
  unfold itemOf
  split
  · simp [It.kind, *]
  · split
    · simp [It.kind, *]
    · simp only [It.kind]; omega
theorem It.ok_mono {x : It} {M M' : Int} (h : x.ok M) (hm : M ≤ M') : x.ok M' := by
  cases x <;> simp only [It.ok] at * <;> omega
theorem itemOf_ok (x : Int) : ∃ M, 0 ≤ M ∧ (itemOf x).ok M := by
  unfold itemOf
  split
  · exact ⟨(x.fdiv 9).natAbs, by omega, by simp only [It.ok]; omega⟩
  · split
    · exact ⟨0, by omega, wordC_lt _, wordK_le _⟩
    · have := fm3 (x.fdiv 9)
      exact ⟨((x.fdiv 9).fdiv 3).natAbs, by omega, by simp only [It.ok]; omega⟩
theorem items_ok : ∀ X : List Int, ∃ M, 0 ≤ M ∧ ∀ x ∈ X, (itemOf x).ok M
  | [] => ⟨0, by omega, fun _ q => by cases q⟩
  | x :: X => by
    obtain ⟨M1, h1, o1⟩ := items_ok X
    obtain ⟨M2, h2, o2⟩ := itemOf_ok x
    refine ⟨M1 + M2, by omega, fun y hy => ?_⟩
    rcases List.mem_cons.mp hy with rfl | hy
    · exact It.ok_mono o2 (by omega)
    · exact It.ok_mono (o1 y hy) (by omega)
theorem raw_ok {M : Int} {X : List Int} (h : ∀ x ∈ X, (itemOf x).ok M) (wh : Int) : ∀ x ∈ raw wh X, x.ok M := by
  intro y hy
  obtain ⟨x, hx, rfl⟩ := List.mem_map.mp hy
  exact h x (List.mem_filter.mp hx).1

section
variable {prog : Program} {w : World} {A : Around} {E : Value → Shared → Prop} {s : Shared} {env : Env} {e1 e2 : Expr} {pos p : Pos}

/-- «chr(97 + ..) * (1 + ..)» -/
theorem evWord {x : Str} {p1 : Pos} {n : Int} (hb : wpAny (model prog w) A (eval (.Name x p) env) (fun v s' => v = .builtin "chr" ∧ s' = s) No s)
    (h1 : EvI prog w A env e1 (97 + n.fmod 4) s) (h2 : ∀ s', Grow s s' → EvI prog w A env e2 (1 + (n.fdiv 4).fmod 3) s') {Q : Value → Shared → Prop}
    (h : ∀ s' t, Grow s s' → Q (.str (word (wordC n) (wordK n)) t) s')
    (hc : eval (.Call (.Name x p) [e1] [] p1) env = (do callWith p1 (← eval (.Name x p) env) [] (backTo p1 (starEach [e1] env)) (backToKw p1 (keywordEach [] env))) := by rfl)
    (q1 : starEach [e1] env = (false, eval e1 env) :: starEach [] env := by rfl) :
    wpAny (model prog w) A (eval (.BinOp (.Call (.Name x p) [e1] [] p1) .Mult e2 pos) env) Q E s := by
  have c4 := fm4 n
  have k3 := fm3 (n.fdiv 4)
  refine wpAny_BinOp (Call_ (wpAny_mono hb (fun v s' ⟨q, q'⟩ => ?_) fun _ _ q => q.elim) hc)
  subst q q'
  refine callWith_builtin1 (spliced_more (h1.use fun s₁ t g₁ => spliced_none ?_) q1) q1 rfl
  refine chr_of_range (by omega) (by omega) ?_
  have g₁' : Grow s' { s₁ with toks := s₁.toks + 1 } := g₁.trans (Grow.toks _ _)
  refine (h2 _ g₁').use fun s₂ t2 g₂ => ?_
  have ew : (97 + n.fmod 4).toNat = 97 + wordC n := by unfold wordC; omega
  rw [ew]
  refine PySem.P.mul_str (by rw [decide_eq_false (by omega), decide_eq_false (by omega)]; rfl) (fun _ _ => ?_) (fun _ _ => ?_) ?_
  · have hle : (1 + (n.fdiv 4).fmod 3) = 1 ∨ (1 + (n.fdiv 4).fmod 3) = 2 ∨ (1 + (n.fdiv 4).fmod 3) = 3 := by omega
    have l1 : (Str.mk #[97 + wordC n]).length = 1 := rfl
    rw [l1]
    rcases hle with q | q | q <;> rw [q] <;> decide
  · have l1 : (Str.mk #[97 + wordC n]).length = 1 := rfl
    have hle : (1 + (n.fdiv 4).fmod 3) = 1 ∨ (1 + (n.fdiv 4).fmod 3) = 2 ∨ (1 + (n.fdiv 4).fmod 3) = 3 := by omega
    rw [l1]
    rcases hle with q | q | q <;> rw [q] <;> decide
  · rw [if_neg (by omega)]
    have hle : (1 + (n.fdiv 4).fmod 3) = 1 ∨ (1 + (n.fdiv 4).fmod 3) = 2 ∨ (1 + (n.fdiv 4).fmod 3) = 3 := by omega
    have l1 : ((Str.mk #[97 + wordC n]).length == 0) = false := rfl
    have ek : wordK n = (1 + (n.fdiv 4).fmod 3).toNat := rfl
    rw [l1]
    have g2' := g₁'.trans g₂
    rcases hle with q | q | q
    · rw [q, if_pos (by decide)]
      rw [q] at ek
      have := h s₂ s₁.toks g2'
      rw [ek] at this
      exact this
    · rw [q, if_neg (by decide)]
      rw [q] at ek
      have := h { s₂ with toks := s₂.toks + 1 } s₂.toks (g2'.trans (Grow.toks _ _))
      rw [ek] at this
      exact ⟨by show 2 ≤ sizeLine; decide, this⟩
    · rw [q, if_neg (by decide)]
      rw [q] at ek
      have := h { s₂ with toks := s₂.toks + 1 } s₂.toks (g2'.trans (Grow.toks _ _))
      rw [ek] at this
      exact ⟨by show 3 ≤ sizeLine; decide, this⟩

/-- an item of a tuple that stands -/
theorem EvV.tupItem {e sl : Expr} {D : Addr} {vs : List Value} {v : Value} {i : Nat} (h : EvV prog w A env e (.ref D) s) (hD : s.heap.get? D = some (tupOf vs)) (hi : vs[i]? = some v) (hz : i < 1000000) (hs : ∀ s₁, Grow s s₁ → EvI prog w A env sl (i : Nat) s₁)
    (hq : ∀ t, subscripted sl false (.ref D) (.int (i : Nat) t) = operate [.ref D, .int (i : Nat) t] (getItem (.ref D) (.int (i : Nat) t)) := by intro _; with_unfolding_all rfl) : EvV prog w A env (.Subscript e sl pos) v s := by
  refine Subscript_ (h.use fun s₁ g₁ => (hs s₁ g₁).use fun s₂ t g₂ => ?_)
  have hT : IsTup s₂.heap D vs.toArray := ⟨_, g₂.keep _ _ (g₁.keep _ _ hD), rfl, _, rfl⟩
  have hlt : i < vs.length := by
    rcases Nat.lt_or_ge i vs.length with q | q
    · exact q
    · rw [List.getElem?_eq_none q] at hi; cases hi
  refine item_tupleT (j := i) hT (by omega) (by omega) ?_ hi ⟨g₁.trans g₂, rfl⟩ (hq t)
  unfold seqIndex?
  have n0 : ¬ ((i : Nat) : Int) < 0 := by omega
  simp only [if_neg n0]
  rw [if_pos (by simp; omega)]
  simp
end

/-- the same, with what is known of the places -/
def RepTN (N : Addr → Prop) (h : Heap) (v : Value) : It → Prop
  | .num n => ∃ t, v = .int n t
  | .txt c k => ∃ t, v = .str (word c k) t
  | .pr a b => ∃ p t u, v = .ref p ∧ N p ∧ h.get? p = some (tupOf [.int a t, .int b u])
def RepKN (N : Addr → Prop) (h : Heap) (v : Value) (x : It) : Prop := ∃ p t iv, v = .ref p ∧ N p ∧ h.get? p = some (tupOf [.int (x.kind : Nat) t, iv]) ∧ RepTN N h iv x
theorem RepTN.to {N : Addr → Prop} {h h' : Heap} {v : Value} {x : It} (r : RepTN N h v x) (k : ∀ b o, N b → h.get? b = some o → h'.get? b = some o) : RepTN N h' v x := by
  cases x with
  | num n => exact r
  | txt c k => exact r
  | pr a b => obtain ⟨p, t1, t2, rfl, n, hp⟩ := r; exact ⟨p, t1, t2, rfl, n, k _ _ n hp⟩
theorem RepKN.to {N : Addr → Prop} {h h' : Heap} {v : Value} {x : It} (r : RepKN N h v x) (k : ∀ b o, N b → h.get? b = some o → h'.get? b = some o) : RepKN N h' v x := by
  obtain ⟨p, t, iv, rfl, n, hp, r⟩ := r
  exact ⟨p, t, iv, rfl, n, k _ _ n hp, r.to k⟩
theorem RepKN.plain {N : Addr → Prop} {h : Heap} {v : Value} {x : It} (r : RepKN N h v x) : RepK h v x := by
  obtain ⟨p, t, iv, rfl, n, hp, r⟩ := r
  refine ⟨p, t, iv, rfl, hp, ?_⟩
  cases x with
  | num n => exact r
  | txt c k => exact r
  | pr a b => obtain ⟨p, t1, t2, rfl, n, hp⟩ := r; exact ⟨p, t1, t2, rfl, hp⟩

section
variable {prog : Program} {w : World} {A : Around} {s : Shared} {f l : Addr} {cd : Value} {vs : List Value} {X : List Int} {M wh : Int}

theorem keys_call {R : Result → Shared → Prop} {tw : Tok} (fn : Fn s.heap f "_law_keys" (stmtAt pg3 3) cd) (lim : s.heap.NoLimit) (hr : A.depth < recursionLimit) (hh : A.handled = none) (hu : A.units < 7000) (hb : Bn s.heap "chr" (.builtin "chr")) (hb' : Bn s.heap "sorted" (.builtin "sorted"))
    (hl : s.heap.IsList l vs.toArray) (ha : All2 RepI vs X) (hz : X.length < 64) (h0 : 0 ≤ M) (ok : ∀ x ∈ X, (itemOf x).ok M)
    (hR : ∀ s' D out Ks j, Grow s s' → s.heap.get? D = none → s'.heap.get? D = some (listOf out.toArray j) → All2 (RepK s'.heap) out Ks → Ks.Perm (raw wh X) → (Ks.Pairwise fun x y => x.rk M ≤ y.rk M) → R (.ok (.ret (.ref D))) s') :
    codeAny (model prog w) A (.call (.ref f) ⟨[.ref l, .int wh tw], []⟩) R s := by
  refine callFn (binds := [("script", .ref l), ("which", .int wh tw)]) fn lim hr (fun _ _ _ _ => rfl) (locs rfl) (fun s₁ F g => ?_) (by decide)
  refine wpAny_mono (E := No) ?_ (fun _ _ q => q) fun _ _ q => q.elim
  generalize hL : s.heap.objs.size = L at F ⊢
  have nL : s.heap.get? L = none := hL ▸ Heap.get?_none_of_le (Nat.le_refl _)
  refine wpAny_execs_cons (wpAny_Assign_Name (List_ (spliced_none (newList_ fun s₂ aD g₂ gD nD => st_ (frGrow F g₂) fun s₃ F₃ g₃ => ?_))))
  have lL : s₁.heap.get? L ≠ none := fun q => by
    obtain ⟨o, _, _, e, _⟩ := F.ns
    rw [e] at q; cases q
  have DL : aD ≠ L := fun q => lL (q ▸ nD)
  have nD₀ : s.heap.get? aD = none := by
    cases q : s.heap.get? aD with
    | none => rfl
    | some o => rw [g.keep _ _ q] at nD; cases nD
  have gD₃ := g₃.keep _ _ DL gD
  obtain ⟨ol, hol, rl⟩ := hl
  have hl' : s₃.heap.IsList l vs.toArray := ⟨ol, F₃.keep _ _ hol, rl⟩
  have l1 : l ≠ aD := fun q => by rw [q, nD₀] at hol; cases hol
  have lLl : l ≠ L := fun q => by rw [q, nL] at hol; cases hol
  have rawS : ∀ k (hk : k < X.length), raw wh (X.take (k + 1)) = raw wh (X.take k) ++ (if inList wh X[k] then [itemOf X[k]] else []) := by
    intro k hk
    unfold raw
    rw [List.take_succ_eq_append_getElem hk, List.filter_append, List.map_append]
    congr 1
    cases hb : inList wh X[k] with
    | true => simp [hb]
    | false => simp [hb]
  have rawL : ∀ k, (raw wh (X.take k)).length ≤ X.length := fun k => by
    unfold raw
    rw [List.length_map]
    refine Nat.le_trans (List.length_filter_le _ _) ?_
    rw [List.length_take]; omega
  refine wpAny_execs_cons (forS (RA := RepI) (X := X) (fps := fun it => [it, l]) F₃ hh (ld F₃ (upd_ne (by decide) rfl) (srcListI (.refl _) hl' ha)) ?_
    (fun it k s' m' => m' "which" = some (.int wh tw) ∧ m' "keys" = some (.ref aD) ∧ s'.os = s.os ∧ s'.gens = s.gens ∧ ∃ us j, s'.heap.get? aD = some (listOf us.toArray j) ∧ All2 (RepKN (fun c => c ≠ aD ∧ c ≠ L ∧ c ≠ it) s'.heap) us (raw wh (X.take k))) ?_ ?_ ?_ ?_)
  · intro it ni q
    rcases List.mem_cons.mp q with q | q
    · obtain ⟨o, _, _, e, _⟩ := F₃.ns
      rw [q, ni] at e; cases e
    · exact lLl (List.mem_singleton.mp q).symm
  · rintro it k s₄ s₅ m' ni ⟨e1, e2, os, gens, us, j, q1, q2⟩ g
    have iR : aD ≠ it := fun q => by rw [← q, gD₃] at ni; cases ni
    exact ⟨e1, e2, g.os.trans os, g.gens.trans gens, us, j, g.keep _ _ iR DL q1, q2.mono fun _ _ _ r => r.to fun b o n e => g.keep b o n.2.2 n.2.1 e⟩
  · intro it s₄ ni g₄
    exact ⟨upd_ne (by decide) rfl, upd_same, g₄.os.trans (g₃.os.trans (g₂.os.trans g.os)), g₄.gens.trans (g₃.gens.trans (g₂.gens.trans g.gens)), [], 0, g₄.keep _ _ gD₃, .nil⟩
  · rintro it k v s₄ m₁ hk ni iL iz hfp ⟨t, rfl⟩ F₄ ⟨e1, e2, os, gens, us, j, q1, q2⟩
    have iR : aD ≠ it := fun q => by rw [← q, gD₃] at ni; cases ni
    have mx : upd m₁ "x" (.int X[k] t) "x" = some (.int X[k] t) := upd_same
    have e1' : upd m₁ "x" (.int X[k] t) "which" = some (.int wh tw) := upd_ne (by decide) e1
    have e2' : upd m₁ "x" (.int X[k] t) "keys" = some (.ref aD) := upd_ne (by decide) e2
    generalize upd m₁ "x" (.int X[k] t) = m₄ at *
    -- n = x // 9
    refine wpAny_execs_cons (wpAny_Assign_Name ((EvI.div (EvI.name F₄.ns mx) (by decide) (by decide)).use fun s₅ t5 g₅ => st_ (frGrow F₄ g₅) fun s₆ F₆ g₆ => ?_))
    have x46 : ExL L s₄ s₆ := g₅.exL.trans g₆
    have mn : upd m₄ "n" (.int (X[k].fdiv 9) t5) "n" = some (.int (X[k].fdiv 9) t5) := upd_same
    have f0 : upd m₄ "n" (.int (X[k].fdiv 9) t5) "x" = some (.int X[k] t) := upd_ne (by decide) mx
    have f1 : upd m₄ "n" (.int (X[k].fdiv 9) t5) "which" = some (.int wh tw) := upd_ne (by decide) e1'
    have f2 : upd m₄ "n" (.int (X[k].fdiv 9) t5) "keys" = some (.ref aD) := upd_ne (by decide) e2'
    generalize upd m₄ "n" (.int (X[k].fdiv 9) t5) = m₆ at *
    -- items
    have oldN : ∀ {s' : Shared} {a : Addr}, ExL L s₄ s' → s'.heap.get? L ≠ none → s'.heap.get? a = none → a ≠ aD ∧ a ≠ L ∧ a ≠ it := by
      intro s' a x nl q
      refine ⟨fun e => ?_, fun e => nl (e ▸ q), fun e => ?_⟩
      · rw [e, x.keep _ _ DL q1] at q; cases q
      · cases hi : s₄.heap.get? it with
        | none => exact iz hi
        | some o => rw [e, x.keep _ _ iL hi] at q; cases q
    have thereL : ∀ {s' : Shared} {m'}, Fr s.heap L s'.heap m' → s'.heap.get? L ≠ none := fun F' q => by
      obtain ⟨o, _, _, e, _⟩ := F'.ns
      rw [e] at q; cases q
    refine wpAny_execs_cons (wpAny_Assign_Name (Tuple_ (spliced_more (ld F₆ mn (spliced_more (evWord (n := X[k].fdiv 9) (nameB F₆ hb ⟨rfl, rfl⟩) (EvI.add EvI.const fun s' g' => EvI.mod (EvI.name (frGrow F₆ g').ns mn) (by decide)) (fun s' g' => EvI.add EvI.const fun s'' g'' => EvI.mod (EvI.div (EvI.name (frGrow F₆ (g'.trans g'')).ns mn) (by decide) (by decide)) (by decide)) fun s₇ t7 g₇ => spliced_more (Tuple_ (spliced_more ((EvI.mod (EvI.name (frGrow F₆ g₇).ns mn) (by decide)).use fun s₈ t8 g₈ => spliced_more ((EvI.div (EvI.name (frGrow F₆ (g₇.trans g₈)).ns mn) (by decide) (by decide)).use fun s₉ t9 g₉ => spliced_none (newTuple_ fun sa aP ga gP nP => spliced_none (newTuple_ fun sb aT gb gT nT => st_ (frGrow F₆ (g₇.trans (g₈.trans (g₉.trans (ga.trans gb))))) fun sc Fc gc => ?_))))))))))))
    have g6b : Grow s₆ sb := g₇.trans (g₈.trans (g₉.trans (ga.trans gb)))
    have x4c : ExL L s₄ sc := x46.trans (g6b.exL.trans gc)
    have F₉ := frGrow F₆ (g₇.trans (g₈.trans g₉))
    have nP' := oldN (x46.trans (g₇.trans (g₈.trans g₉)).exL) (thereL F₉) nP
    have nT' := oldN (x46.trans (g₇.trans (g₈.trans (g₉.trans ga))).exL) (thereL (frGrow F₉ ga)) nT
    have hP := gc.keep _ _ nP'.2.1 (gb.keep _ _ gP)
    have hT := gc.keep _ _ nT'.2.1 gT
    have h3 : upd m₆ "items" (.ref aT) "items" = some (.ref aT) := upd_same
    have h0' : upd m₆ "items" (.ref aT) "x" = some (.int X[k] t) := upd_ne (by decide) f0
    have h1' : upd m₆ "items" (.ref aT) "which" = some (.int wh tw) := upd_ne (by decide) f1
    have h2' : upd m₆ "items" (.ref aT) "keys" = some (.ref aD) := upd_ne (by decide) f2
    generalize upd m₆ "items" (.ref aT) = mc at *
    have qc := x4c.keep _ _ DL q1
    obtain ⟨i, iv, hi, hiv, riv⟩ : ∃ (i : Nat) (iv : Value), (i : Int) = X[k].fmod 3 ∧ [.int (X[k].fdiv 9) t5, .str (word (wordC (X[k].fdiv 9)) (wordK (X[k].fdiv 9))) t7, Value.ref aP][i]? = some iv ∧ RepTN (fun c => c ≠ aD ∧ c ≠ L ∧ c ≠ it) sc.heap iv (itemOf X[k]) := by
      have := fm3 X[k]
      by_cases c0 : X[k].fmod 3 = 0
      · exact ⟨0, _, by omega, rfl, by unfold itemOf; rw [if_pos c0]; exact ⟨_, rfl⟩⟩
      · by_cases c1 : X[k].fmod 3 = 1
        · exact ⟨1, _, by omega, rfl, by unfold itemOf; rw [if_neg c0, if_pos c1]; exact ⟨_, rfl⟩⟩
        · exact ⟨2, _, by omega, rfl, by unfold itemOf; rw [if_neg c0, if_neg c1]; exact ⟨aP, _, _, rfl, nP', hP⟩⟩
    have hkd : (itemOf X[k]).kind = i := by have := itemOf_kind X[k]; omega
    -- if x // 3 % 3 in (which, 2)
    refine wpAny_execs_cons (wpAny_If (wpAny_isTrue_Compare1 ((EvI.mod (EvI.div (EvI.name Fc.ns h0') (by decide) (by decide)) (by decide)).use fun sd td gd => Tuple_ (spliced_more (ld (frGrow Fc gd) h1' (spliced_more (EvI.const.use fun se te ge => spliced_none (newTuple_ fun sf aW gf gW nW => ?_)))))))) 
    refine in_tupleAt (items := [.int wh tw, .int 2 te].toArray) (fun y => numOf y == (X[k].fdiv 3).fmod 3) ⟨_, gW, rfl, _, rfl⟩ (fun y hy => ?_) (wpAny_truthy_bool ?_)
    · have : y = .int wh tw ∨ y = .int 2 te := by simpa using hy
      rcases this with rfl | rfl
      · exact EqAt.int_int _ _ _ _
      · exact EqAt.int_int _ _ _ _
    have ein : ([.int wh tw, .int 2 te].toArray.any fun y => numOf y == (X[k].fdiv 3).fmod 3) = inList wh X[k] := by
      rw [List.any_toArray]
      show ((wh == (X[k].fdiv 3).fmod 3) || ((2 == (X[k].fdiv 3).fmod 3) || false)) = _
      unfold inList
      rw [Bool.or_false, Bool.beq_comm (a := wh), Bool.beq_comm (a := (2 : Int))]
    rw [ein]
    have gcf : Grow sc sf := gd.trans (ge.trans gf)
    have rs := rawS k hk
    have itK : ∀ o, s₄.heap.get? it = some o → sf.heap.get? it = some o := fun o e => gcf.keep _ _ (x4c.keep _ _ iL e)
    have lK : ∀ o, s₄.heap.get? l = some o → sf.heap.get? l = some o := fun o e => gcf.keep _ _ (x4c.keep _ _ lLl e)
    have q2' := q2.mono fun v x _ (r : RepKN _ _ v x) => r.to (h' := sf.heap) fun b o n e => gcf.keep _ _ (x4c.keep b o n.2.1 e)
    cases hin : inList wh X[k] with
    | false =>
      rw [if_neg (by decide)]
      rw [hin, if_neg (by decide), List.append_nil] at rs
      repeat refine wpAny_execs_nil ?_
      refine .inl ⟨rfl, fun b hb o e => ?_, mc, frGrow Fc gcf, h1', h2', gcf.os.trans (x4c.os.trans os), gcf.gens.trans (x4c.gens.trans gens), us, j, gcf.keep _ _ qc, ?_⟩
      · rcases List.mem_cons.mp hb with rfl | hb
        · exact itK o e
        · rw [List.mem_singleton.mp hb] at e ⊢; exact lK o e
      · rw [rs]; exact q2'
    | true =>
      rw [if_pos rfl]
      rw [hin, if_pos rfl] at rs
      have Ff := frGrow Fc gcf
      have rl := rawL k
      have ul := q2.length
      refine wpAny_execs_cons (append_ Ff h2' (gcf.keep _ _ qc) (by omega) (Tuple_ (spliced_more ((EvI.mod (EvI.name Ff.ns h0') (by decide)).use fun sg tg gg => spliced_more ((EvV.tupItem (i := i) (EvV.name (frGrow Ff gg).ns h3) (gg.keep _ _ (gcf.keep _ _ hT)) hiv (by have := fm3 X[k]; omega) fun s' g' => by rw [hi]; exact EvI.mod (EvI.name (frGrow Ff (gg.trans g')).ns h0') (by decide)).use fun sh gh => spliced_none (newTuple_ fun si aK gi gK nK => ⟨gg.trans (gh.trans gi), fun sj gj hDj => ?_⟩)))))) 
      have Fi := frGrow Ff (gg.trans (gh.trans gi))
      have gfi := gg.trans (gh.trans gi)
      have nK' := oldN (x4c.trans ((gcf.trans (gg.trans gh)).exL)) (thereL (frGrow Ff (gg.trans gh))) nK
      repeat refine wpAny_execs_nil ?_
      refine .inl ⟨rfl, fun b hb o e => ?_, mc, frExL Fi gj (Ne.symm DL) nD₀, h1', h2', gj.os.trans (gfi.os.trans (gcf.os.trans (x4c.os.trans os))), gj.gens.trans (gfi.gens.trans (gcf.gens.trans (x4c.gens.trans gens))), _, _, hDj, ?_⟩
      · rcases List.mem_cons.mp hb with rfl | hb
        · exact gj.keep _ _ (Ne.symm iR) (gfi.keep _ _ (itK o e))
        · rw [List.mem_singleton.mp hb] at e ⊢; exact gj.keep _ _ l1 (gfi.keep _ _ (lK o e))
      · rw [rs]
        refine (q2'.mono fun v x _ (r : RepKN _ _ v x) => r.to fun b o n e => gj.keep _ _ n.1 (gfi.keep _ _ e)).append (.cons ⟨aK, tg, iv, rfl, nK', ?_, riv.to fun b o n e => gj.keep _ _ n.1 (gfi.keep _ _ (gcf.keep _ _ e))⟩ .nil)
        rw [hkd, hi]
        exact gj.keep _ _ nK'.1 gK
  · rintro it s₄ m' ni F' ⟨e1, e2, os, gens, us, j, q1, q2⟩
    rw [List.take_length] at q2
    have q3 : All2 (RepK s₄.heap) us (raw wh X) := q2.mono fun v x _ (r : RepKN _ _ v x) => r.plain
    have ul := q2.length
    have rl := rawL X.length
    rw [List.take_length] at rl
    refine wpAny_execs_cons (wpAny_Return_some (Call_ (nameB F' hb' ?_) rfl))
    refine callWith_builtin1 (spliced_more (ld F' e2 (spliced_none ?_)) rfl) rfl rfl
    refine sortedKeys h0 (raw_ok ok wh) (by show A.units + 3 < 8000; omega) q1 q3 (by omega) fun s₅ D out Ks mm g₅ nD' hD' aK pK sK => ?_
    have nD0 : s.heap.get? D = none := by
      cases q : s.heap.get? D with
      | none => rfl
      | some o => rw [F'.keep _ _ q] at nD'; cases nD'
    exact hR s₅ D out Ks mm ⟨fun b o e => g₅.keep _ _ (F'.keep b o e), g₅.os.trans os, g₅.gens.trans gens⟩ nD0 hD' aK pK sK
end

section
variable {A : Around} {s : Shared} {u v : Value} {x y : It} {M : Int}
theorem neK (hx : x.ok M) (hy : y.ok M) (ru : RepK s.heap u x) (rv : RepK s.heap v y) (hu : A.units + 6 < cLine) : RcNeAt A s u v (!x.beq y) := by
  obtain ⟨p, t, iv, rfl, hp, r⟩ := ru
  obtain ⟨p', t', iv', rfl, hp', r'⟩ := rv
  have := RcNeAt.tuples (A := A) (s := s) (e := fun j => if j = 0 then ((x.kind : Int) == (y.kind : Int)) else x.beq y) (l := p) (b := p') (items := [.int (x.kind : Nat) t, iv].toArray) (items2 := [.int (y.kind : Nat) t', iv'].toArray) ⟨_, hp, rfl, _, rfl⟩ ⟨_, hp', rfl, _, rfl⟩ (by omega) (fun j h1 h2 => by
    match j, h1 with
    | 0, _ => exact EqAt.int_int _ t _ t'
    | 1, _ => exact eqT hx hy r r' (by show A.units + 1 + 2 < cLine; omega))
  have e2 : (((List.range (min [Value.int (x.kind : Nat) t, iv].toArray.size [Value.int (y.kind : Nat) t', iv'].toArray.size)).all fun j => if j = 0 then ((x.kind : Int) == (y.kind : Int)) else x.beq y) && [Value.int (x.kind : Nat) t, iv].toArray.size == [Value.int (y.kind : Nat) t', iv'].toArray.size) = x.beq y := by
    show (((x.kind : Int) == (y.kind : Int)) && (x.beq y && true) && true) = x.beq y
    cases x <;> cases y <;> simp [It.kind, It.beq]
  rw [e2] at this; exact this
end

theorem any_keys {h : Heap} {M : Int} {vs : List Value} {Y : List It} (h0 : 0 ≤ M) (ha : All2 (RepK h) vs Y) (ok : ∀ y ∈ Y, y.ok M) {x : It} (hx : x.ok M) : (vs.toArray.any fun v => (itv M h v).beq x) = (Y.map (It.rk M)).contains (x.rk M) := by
  rw [List.any_toArray]
  induction ha with
  | nil => rfl
  | cons r _ ih =>
    rw [List.any_cons, ih fun y hy => ok y (.tail _ hy), List.map_cons, List.contains_cons, itv_eq r (ok _ (.head _)), rk_eq h0 (ok _ (.head _)) hx]
    congr 1
    exact Bool.beq_comm
theorem all_last3 {Y : List Int} {yl x : Int} (h : (Y ++ [yl]).Pairwise (· ≤ ·)) : ((Y ++ [yl]).all fun b => decide (b < x)) = decide (x > yl) := by
  have h' := (List.pairwise_append.mp h).2.2
  rw [Bool.eq_iff_iff, List.all_eq_true, decide_eq_true_eq]
  constructor
  · intro q
    have := q yl (by simp)
    simpa using this
  · intro q b hb
    rcases List.mem_append.mp hb with hb | hb
    · have := h' b hb yl (.head _)
      simp; omega
    · rw [List.mem_singleton.mp hb]; simpa using q
theorem lastK_take3 {M : Int} {Z : List It} {k : Nat} (hk : k < Z.length) : lastK (It.rk M) none (Z.take k) = if k = 0 then none else some ((Z.map (It.rk M)).getD (k - 1) 0) := by
  unfold lastK
  cases k with
  | zero => rfl
  | succ k =>
    have : (Z.take (k + 1)).getLast? = some Z[k] := by
      rw [List.take_succ_eq_append_getElem (by omega), List.getLast?_concat]
    rw [this, if_neg (by omega)]
    simp
    rw [List.getElem?_eq_getElem (by omega)]; rfl

section
variable {prog : Program} {w : World} {A : Around} {s : Shared} {f l1 l2 : Addr} {cd : Value} {vs ws : List Value} {X Y : List It} {M : Int} {j1 j2 : Nat}

theorem due3_call {R : Result → Shared → Prop} (fn : Fn s.heap f "_law_due" (stmtAt pg3 5) cd) (lim : s.heap.NoLimit) (hr : A.depth < recursionLimit) (hh : A.handled = none) (hu : A.units < 7000) (hb : Bn s.heap "range" (.type "range")) (hb' : Bn s.heap "len" (.builtin "len"))
    (h1 : s.heap.get? l1 = some (listOf vs.toArray j1)) (ha : All2 (RepK s.heap) vs X) (hz : X.length < 1000) (h2 : s.heap.get? l2 = some (listOf ws.toArray j2)) (ha' : All2 (RepK s.heap) ws Y) (hz' : Y.length < 1000) (h0 : 0 ≤ M) (okX : ∀ x ∈ X, x.ok M) (okY : ∀ y ∈ Y, y.ok M) (sY : (Y.map (It.rk M)).Pairwise (· ≤ ·))
    (hR : ∀ s' D us j, Grow s s' → s.heap.get? D = none → s'.heap.get? D = some (listOf us.toArray j) → All2 (RepT s.heap) us (due (It.rk M) (Y.map (It.rk M)) none X) → R (.ok (.ret (.ref D))) s') :
    codeAny (model prog w) A (.call (.ref f) ⟨[.ref l1, .ref l2], []⟩) R s := by
  refine callFn (binds := [("own", .ref l1), ("other", .ref l2)]) fn lim hr (fun _ _ _ _ => rfl) (locs rfl) (fun s₁ F g => ?_) (by decide)
  refine wpAny_mono (E := No) ?_ (fun _ _ q => q) fun _ _ q => q.elim
  generalize hL : s.heap.objs.size = L at F ⊢
  have nL : s.heap.get? L = none := hL ▸ Heap.get?_none_of_le (Nat.le_refl _)
  refine wpAny_execs_cons (wpAny_Assign_Name (List_ (spliced_none (newList_ fun s₂ aD g₂ gD nD => st_ (frGrow F g₂) fun s₃ F₃ g₃ => ?_))))
  have lL : s₁.heap.get? L ≠ none := fun q => by
    obtain ⟨o, _, _, e, _⟩ := F.ns
    rw [e] at q; cases q
  have DL : aD ≠ L := fun q => lL (q ▸ nD)
  have nD₀ : s.heap.get? aD = none := by
    cases q : s.heap.get? aD with
    | none => rfl
    | some o => rw [g.keep _ _ q] at nD; cases nD
  have gD₃ := g₃.keep _ _ DL gD
  have lv := ha.length
  have dl : ∀ (p : Option Int) (l : List It), (due (It.rk M) (Y.map (It.rk M)) p l).length ≤ l.length := by
    intro p l
    induction l generalizing p with
    | nil => exact Nat.le_refl _
    | cons a l ih =>
      rw [due]
      split
      · have := ih (some (a.rk M)); simp; omega
      · have := ih (some (a.rk M)); simp; omega
  generalize hd : due (It.rk M) (Y.map (It.rk M)) none = dF at *
  refine wpAny_execs_cons (forS (RA := fun v (k : Nat) => ∃ t, v = .int (k : Nat) t) (X := List.range vs.length) (fps := fun it => [it]) F₃ hh ?_ ?_
    (fun it k s' m' => m' "own" = some (.ref l1) ∧ m' "other" = some (.ref l2) ∧ m' "due" = some (.ref aD) ∧ s'.os = s.os ∧ s'.gens = s.gens ∧ ∃ us j, s'.heap.get? aD = some (listOf us.toArray j) ∧ All2 (RepT s.heap) us (dF (X.take k))) ?_ ?_ ?_ ?_)
  · refine wpAny_mono (rangeLen (nameB F₃ hb ⟨rfl, rfl⟩) (fun s₄ g₄ => nameB (frGrow F₃ g₄) hb' ⟨rfl, rfl⟩) (fun s₄ g₄ => EvV.name (frGrow F₃ g₄).ns (upd_ne (by decide) rfl)) (F₃.keep _ _ h1) (by omega)) (fun v s₄ ⟨r, t, u, w', e, g₄, hr'⟩ => ?_) fun _ _ q => q
    subst e
    exact srcRangeF g₄ hr' (by omega)
  · intro it ni q
    obtain ⟨o, _, _, e, _⟩ := F₃.ns
    rw [List.mem_singleton.mp q, ni] at e; cases e
  · rintro it k s₄ s₅ m' ni ⟨e1, e2, e4, os, gens, us, j, q1, q2⟩ g
    have iR : aD ≠ it := fun q => by rw [← q, gD₃] at ni; cases ni
    exact ⟨e1, e2, e4, g.os.trans os, g.gens.trans gens, us, j, g.keep _ _ iR DL q1, q2⟩
  · intro it s₄ ni g₄
    refine ⟨upd_ne (by decide) rfl, upd_ne (by decide) rfl, upd_same, g₄.os.trans (g₃.os.trans (g₂.os.trans g.os)), g₄.gens.trans (g₃.gens.trans (g₂.gens.trans g.gens)), [], 0, g₄.keep _ _ gD₃, ?_⟩
    rw [← hd]; exact .nil
  · rintro it k v s₄ m₁ hk ni iL iz hfp rv F₄ ⟨e1, e2, e4, os, gens, us, j, q1, q2⟩
    have iR : aD ≠ it := fun q => by rw [← q, gD₃] at ni; cases ni
    rw [List.getElem_range] at rv
    obtain ⟨t, rfl⟩ := rv
    rw [List.length_range] at hk
    have hkX : k < X.length := by omega
    have mk : upd m₁ "k" (.int (k : Nat) t) "k" = some (.int (k : Nat) t) := upd_same
    have e1' : upd m₁ "k" (.int (k : Nat) t) "own" = some (.ref l1) := upd_ne (by decide) e1
    have e2' : upd m₁ "k" (.int (k : Nat) t) "other" = some (.ref l2) := upd_ne (by decide) e2
    have e4' : upd m₁ "k" (.int (k : Nat) t) "due" = some (.ref aD) := upd_ne (by decide) e4
    generalize upd m₁ "k" (.int (k : Nat) t) = m₄ at *
    have rk0 := ha.get k hk hkX
    have okk := okX X[k] (List.getElem_mem _)
    have hvk : vs[k]? = some vs[k] := List.getElem?_eq_getElem hk
    have ul : (A.deeper (envOf "_law_due" (scopeOf (stmtAt pg3 5)) L f cd)).units + 6 < cLine := Nat.lt_of_lt_of_le (show A.units + 3 + 6 < 9000 by omega) (by decide)
    have ownK : ∀ {s₅ : Shared} {m' : Str → Option Value} {p1 p2 p3 : Pos}, Fr s.heap L s₅.heap m' → m' "own" = some (.ref l1) → m' "k" = some (.int (k : Nat) t) → EvV prog w (A.deeper (envOf "_law_due" (scopeOf (stmtAt pg3 5)) L f cd)) (envOf "_law_due" (scopeOf (stmtAt pg3 5)) L f cd) (.Subscript (.Name "own" p1) (.Name "k" p2) p3) vs[k] s₅ :=
      fun F' a b => EvV.item (EvV.name F'.ns a) (F'.keep _ _ h1) hvk (by omega) fun s₆ g₆ => EvI.name (frGrow F' g₆).ns b
    -- single = k == 0 or own[k - 1] != own[k]
    have lk := lastK_take3 (M := M) (Z := X) (k := k) hkX
    have stepS : ∀ {E' : Value → Shared → Prop} {Q' : Value → Shared → Prop} {pos pa pb pc p1 p2 p3 p4 p5 p6 p7 p8 p9 : Pos} {k0 k1 : Nat}, (∀ s₅, Grow s₄ s₅ → Q' (.bool (lastK (It.rk M) none (X.take k) != some (X[k].rk M))) s₅) →
        wpAny (model prog w) (A.deeper (envOf "_law_due" (scopeOf (stmtAt pg3 5)) L f cd)) (eval (.BoolOp .Or [.Compare (.Name "k" p1) [.Eq] [.Constant (.int 0) k0 p2] pa, .Compare (.Subscript (.Name "own" p3) (.BinOp (.Name "k" p4) .Sub (.Constant (.int 1) k1 p5) p6) p7) [.NotEq] [.Subscript (.Name "own" p8) (.Name "k" p9) pb] pc] pos) (envOf "_law_due" (scopeOf (stmtAt pg3 5)) L f cd)) Q' E' s₄ := by
      intro E' Q' pos pa pb pc p1 p2 p3 p4 p5 p6 p7 p8 p9 k0 k1 hq
      refine BoolOp_or (wpAny_Compare1 (ld F₄ mk (EvI.const.use fun s₅ t5 g₅ => eq_int (wpAny_truthy_bool ?_))))
      by_cases e0 : k = 0
      · have : ((k : Int) == 0) = true := by simp [e0]
        rw [this, if_pos rfl]
        have e : (lastK (It.rk M) none (X.take k) != some (X[k].rk M)) = true := by rw [lk, if_pos e0]; rfl
        rw [e] at hq
        exact hq s₅ g₅
      · have : ((k : Int) == 0) = false := by simp; omega
        rw [this, if_neg (by decide)]
        have rk1 := ha.get (k - 1) (by omega) (by omega)
        have hvk1 : vs[k - 1]? = some vs[k - 1] := List.getElem?_eq_getElem (by omega)
        refine BoolOp_one (wpAny_Compare1 ?_)
        have F₅ := frGrow F₄ g₅
        refine (EvV.item (i := k - 1) (EvV.name F₅.ns e1') (F₅.keep _ _ h1) hvk1 (by omega) fun s₆ g₆ => ?_).use fun s₆ g₆ => ?_
        · have : ((k - 1 : Nat) : Int) = (k : Int) - 1 := by omega
          rw [this]
          exact EvI.sub (EvI.name (frGrow F₅ g₆).ns mk) fun _ _ => EvI.const
        refine (ownK (frGrow F₅ g₆) e1' mk).use fun s₇ g₇ => cmp_ofNotEq (neK (okX _ (List.getElem_mem (by omega))) okk (rk1.keep (frGrow F₅ (g₆.trans g₇)).keep) (rk0.keep (frGrow F₅ (g₆.trans g₇)).keep) ul _ _ _ _ ?_)
        have e : (lastK (It.rk M) none (X.take k) != some (X[k].rk M)) = (!(X[k - 1].beq X[k])) := by
          rw [lk, if_neg e0, List.getD_eq_getElem?_getD, List.getElem?_eq_getElem (by simp; omega), rk_eq h0 (okX _ (List.getElem_mem (by omega))) okk]
          simp [bne]
        rw [e] at hq
        exact hq s₇ (g₅.trans (g₆.trans g₇))
    refine wpAny_execs_cons (wpAny_Assign_Name (stepS fun s₅ g₅ => st_ (frGrow F₄ g₅) fun s₆ F₆ g₆ => ?_))
    clear stepS
    have x46 : ExL L s₄ s₆ := g₅.exL.trans g₆
    have q6 := x46.keep _ _ DL q1
    have hsg : ∃ sg, sg = (lastK (It.rk M) none (X.take k) != some (X[k].rk M)) := ⟨_, rfl⟩
    obtain ⟨sg, hsg⟩ := hsg
    rw [← hsg] at F₆
    have f0 : upd m₄ "single" (.bool sg) "single" = some (.bool sg) := upd_same
    have fk : upd m₄ "single" (.bool sg) "k" = some (.int (k : Nat) t) := upd_ne (by decide) mk
    have f1 : upd m₄ "single" (.bool sg) "own" = some (.ref l1) := upd_ne (by decide) e1'
    have f2 : upd m₄ "single" (.bool sg) "other" = some (.ref l2) := upd_ne (by decide) e2'
    have f4 : upd m₄ "single" (.bool sg) "due" = some (.ref aD) := upd_ne (by decide) e4'
    generalize upd m₄ "single" (.bool sg) = m₆ at *
    have tk : X.take (k + 1) = X.take k ++ [X[k]] := List.take_succ_eq_append_getElem hkX
    have sn := due_snoc (key := It.rk M) (B := Y.map (It.rk M)) X[k] (X.take k) none
    rw [← tk, hd] at sn
    have it6 : ∀ o, s₄.heap.get? it = some o → s₆.heap.get? it = some o := fun o e => x46.keep _ _ iL e
    obtain ⟨pk, tkd, iv, evk, hpk, riv⟩ := id rk0
    have itemK : ∀ {s₅ : Shared} {p1 p2 p3 p4 p5 : Pos} {kc : Nat}, Fr s.heap L s₅.heap m₆ → EvV prog w (A.deeper (envOf "_law_due" (scopeOf (stmtAt pg3 5)) L f cd)) (envOf "_law_due" (scopeOf (stmtAt pg3 5)) L f cd) (.Subscript (.Subscript (.Name "own" p1) (.Name "k" p2) p3) (.Constant (.int 1) kc p4) p5) iv s₅ :=
      fun F' => EvV.tupItem (i := 1) (by rw [← evk]; exact ownK F' f1 fk) (F'.keep _ _ hpk) rfl (by decide) fun s₆ g₆ => EvI.const
    have hus := q2.length
    have hdl : us.length < 1000000 := by
      have := dl none (X.take k); rw [hd, List.length_take] at this; omega
    have finS : ∀ s₇, Grow s₆ s₇ → incl (lastK (It.rk M) none (X.take k)) (X[k].rk M) (Y.map (It.rk M)) = false → (Flow.next = .next ∧ Stay [it] s₄.heap s₇.heap ∧ ∃ m₃, Fr s.heap L s₇.heap m₃ ∧ m₃ "own" = some (.ref l1) ∧ m₃ "other" = some (.ref l2) ∧ m₃ "due" = some (.ref aD) ∧ s₇.os = s.os ∧ s₇.gens = s.gens ∧ ∃ us j, s₇.heap.get? aD = some (listOf us.toArray j) ∧ All2 (RepT s.heap) us (dF (X.take (k + 1)))) := by
      intro s₇ g₇ hi
      rw [hi, if_neg (by decide), List.append_nil] at sn
      rw [sn]
      exact ⟨rfl, fun b hb o e => by rw [List.mem_singleton.mp hb] at e ⊢; exact g₇.keep _ _ (it6 o e), m₆, frGrow F₆ g₇, f1, f2, f4, g₇.os.trans (x46.os.trans os), g₇.gens.trans (x46.gens.trans gens), us, j, g₇.keep _ _ q6, q2⟩
    have finA : ∀ s₇ s₈ s₉ j', Grow s₆ s₇ → Grow s₇ s₈ → ExL aD s₈ s₉ → s₉.heap.get? aD = some (listOf (us ++ [iv]).toArray j') → incl (lastK (It.rk M) none (X.take k)) (X[k].rk M) (Y.map (It.rk M)) = true →
        (Flow.next = .next ∧ Stay [it] s₄.heap s₉.heap ∧ ∃ m₃, Fr s.heap L s₉.heap m₃ ∧ m₃ "own" = some (.ref l1) ∧ m₃ "other" = some (.ref l2) ∧ m₃ "due" = some (.ref aD) ∧ s₉.os = s.os ∧ s₉.gens = s.gens ∧ ∃ us j, s₉.heap.get? aD = some (listOf us.toArray j) ∧ All2 (RepT s.heap) us (dF (X.take (k + 1)))) := by
      intro s₇ s₈ s₉ j' g₇ g₈ g₉ hD₉ hi
      rw [hi, if_pos rfl] at sn
      rw [sn]
      exact ⟨rfl, fun b hb o e => by rw [List.mem_singleton.mp hb] at e ⊢; exact g₉.keep _ _ (Ne.symm iR) (g₈.keep _ _ (g₇.keep _ _ (it6 o e))), m₆, frExL (frGrow F₆ (g₇.trans g₈)) g₉ (Ne.symm DL) nD₀, f1, f2, f4, g₉.os.trans ((g₇.trans g₈).os.trans (x46.os.trans os)), g₉.gens.trans ((g₇.trans g₈).gens.trans (x46.gens.trans gens)), us ++ [iv], j', hD₉, q2.append (.cons riv .nil)⟩
    -- own[k] not in other
    refine wpAny_execs_cons (wpAny_If (isTrue_and (wpAny_isTrue_Compare1 ((ownK F₆ f1 fk).use fun s₇ g₇ => ld (frGrow F₆ g₇) f2 ?_))))
    have F₇ := frGrow F₆ g₇
    refine notIn_listAt (fun v => (itv M s.heap v).beq X[k]) (isL (F₇.keep _ _ h2)) (fun y hy => ?_) (wpAny_truthy_bool ?_)
    · obtain ⟨z, hz, rz⟩ := all2_mem ha' y (by simpa using hy)
      rw [itv_eq rz (okY z hz)]
      exact eqK (okY z hz) okk (rz.keep F₇.keep) (rk0.keep F₇.keep) (by show A.units + 3 + 1 + 6 < cLine; exact Nat.lt_of_lt_of_le (show A.units + 3 + 1 + 6 < 9000 by omega) (by decide))
    rw [any_keys h0 ha' okY okk]
    cases hcon : (Y.map (It.rk M)).contains (X[k].rk M) with
    | true =>
      rw [if_neg (by decide), if_neg (by decide)]
      repeat refine wpAny_execs_nil ?_
      exact .inl (finS s₇ g₇ (by unfold incl; rw [hcon]; rfl))
    | false =>
      rw [if_pos (by decide)]
      refine isTrue_and (isTrue_or (isTrue_plain (ld F₇ f0 (wpAny_truthy_bool ?_))))
      cases hs : sg with
      | true =>
        rw [if_pos rfl, if_pos rfl]
        refine isTrue_and_nil ?_
        rw [if_pos rfl]
        refine wpAny_execs_cons (append_ F₇ f4 ((g₇).keep _ _ q6) hdl ((itemK F₇).use fun sa ga => ⟨ga, fun sb gb hDb => ?_⟩))
        repeat refine wpAny_execs_nil ?_
        exact .inl (finA _ _ sb _ (g₇) ga gb hDb (by unfold incl; rw [hcon, ← hsg, hs]; rfl))
      | false =>
        rw [if_neg (by decide)]
        refine isTrue_or (wpAny_isTrue_Compare1 (ld F₇ f2 (List_ (spliced_none (newList_ fun s₈ B g₈ hB nB => ?_)))))
        have F₈ := frGrow F₇ g₈
        refine cmp_ofEq (rcEmpty (F₈.keep _ _ h2) hB (by omega) _ _ _ _ (wpAny_truthy_bool ?_))
        rcases List.eq_nil_or_concat Y with eY | ⟨Y', yl, eY⟩
        · subst eY
          cases ha'
          rw [show ([] : List Value).isEmpty = true from rfl, if_pos rfl, if_pos rfl]
          refine isTrue_and_nil ?_
          rw [if_pos rfl]
          refine wpAny_execs_cons (append_ F₈ f4 ((g₇.trans g₈).keep _ _ q6) hdl ((itemK F₈).use fun sa ga => ⟨ga, fun sb gb hDb => ?_⟩))
          repeat refine wpAny_execs_nil ?_
          exact .inl (finA _ _ sb _ (g₇.trans g₈) ga gb hDb (by unfold incl; rw [hcon]; simp))
        · rw [List.concat_eq_append] at eY
          subst eY
          obtain ⟨ws', wl, rfl, ha'', rl⟩ := All2.snoc ha'
          rw [show (ws' ++ [wl]).isEmpty = false by simp, if_neg (by decide)]
          refine isTrue_or (wpAny_isTrue_Compare1 ((ownK F₈ f1 fk).use fun s₉ g₉ => ?_))
          have F₉ := frGrow F₈ g₉
          have okl := okY yl (by simp)
          refine (EvV.last (EvV.name F₉.ns f2) (F₉.keep _ _ h2) (by simp at hz'; have := ha''.length; omega)).use fun s₁₀ g₁₀ => cmp_ofGt (gtK h0 okk okl (rk0.keep (frGrow F₉ g₁₀).keep) (rl.keep (frGrow F₉ g₁₀).keep) ul _ _ _ _ (wpAny_truthy_bool ?_))
          have hall : (((Y' ++ [yl]).map (It.rk M)).all fun b => decide (b < X[k].rk M)) = decide (X[k].rk M > yl.rk M) := by
            rw [List.map_append] at sY ⊢
            exact all_last3 sY
          by_cases hg : X[k].rk M > yl.rk M
          · rw [decide_eq_true hg, if_pos rfl, if_pos rfl]
            refine isTrue_and_nil ?_
            rw [if_pos rfl]
            have F₁₀ := frGrow F₉ g₁₀
            refine wpAny_execs_cons (append_ F₁₀ f4 ((g₇.trans (g₈.trans (g₉.trans g₁₀))).keep _ _ q6) hdl ((itemK F₁₀).use fun sa ga => ⟨ga, fun sb gb hDb => ?_⟩))
            repeat refine wpAny_execs_nil ?_
            exact .inl (finA _ _ sb _ (g₇.trans (g₈.trans (g₉.trans g₁₀))) ga gb hDb (by unfold incl; rw [hcon, hall, decide_eq_true hg]; simp))
          · rw [decide_eq_false hg, if_neg (by decide)]
            refine isTrue_or_nil ?_
            rw [if_neg (by decide), if_neg (by decide)]
            repeat refine wpAny_execs_nil ?_
            exact .inl (finS s₁₀ (g₇.trans (g₈.trans (g₉.trans g₁₀))) (by unfold incl; rw [hcon, ← hsg, hs, hall, decide_eq_false hg]; rfl))
  · rintro it s₄ m' ni F' ⟨e1, e2, e4, os, gens, us, j, q1, q2⟩
    rw [List.length_range, List.take_of_length_le (by omega)] at q2
    refine wpAny_execs_cons (wpAny_Return_some (ld F' e4 ?_))
    exact hR s₄ aD us j ⟨F'.keep, os, gens⟩ nD₀ q1 q2
end

/-! next items of unlike kinds -/
def clashB : List It → List It → Bool
  | x :: _, y :: _ => x.kind != y.kind
  | _, _ => false
def gtO (M : Int) : Option It → It → Bool
  | none, _ => true
  | some z, x => decide (x.rk M > z.rk M)
def clashO (M : Int) (K1 K2 : List It) (o : Option It) : Bool := clashB (K1.filter (gtO M o)) (K2.filter (gtO M o))
def opts (K1 K2 : List It) : List (Option It) := none :: (K1 ++ K2).map some
def unl (M : Int) (K1 K2 : List It) : Bool := (opts K1 K2).any (clashO M K1 K2)

def RepO (h : Heap) (v : Value) : Option It → Prop
  | none => ∃ p t, v = .ref p ∧ h.get? p = some (tupOf [.int (-1) t])
  | some x => RepK h v x
theorem RepO.keep {h h' : Heap} {v : Value} {o : Option It} (r : RepO h v o) (k : ∀ b o, h.get? b = some o → h'.get? b = some o) : RepO h' v o := by
  cases o with
  | none => obtain ⟨p, t, rfl, hp⟩ := r; exact ⟨p, t, rfl, k _ _ hp⟩
  | some x => exact RepK.keep r k
/-- the order of a key and a bound -/
theorem gtRO {A : Around} {s : Shared} {u v : Value} {x : It} {o : Option It} {M : Int} (h0 : 0 ≤ M) (hx : x.ok M) (ho : ∀ z, o = some z → z.ok M) (ru : RepK s.heap u x) (rv : RepO s.heap v o) (hu : A.units + 6 < cLine) : RcOp .Gt A s u v (gtO M o x) := by
  cases o with
  | none =>
    obtain ⟨p, t, rfl, hp⟩ := rv
    exact gtBot hp ru (by omega)
  | some z => exact gtK h0 hx (ho z rfl) ru rv hu

theorem all2_some {h : Heap} {vs : List Value} {K : List It} (ha : All2 (RepK h) vs K) : All2 (RepO h) vs (K.map some) := by
  induction ha with
  | nil => exact .nil
  | cons r _ ih => exact .cons r ih

section
variable {prog : Program} {w : World} {A : Around} {s : Shared} {f l1 l2 : Addr} {cd : Value} {vs ws : List Value} {K1 K2 : List It} {M : Int} {j1 j2 : Nat}

/-- «[x for x in l if x > key]» -/
theorem compGt {E : Value → Shared → Prop} {env : Env} {l c : Addr} {us : List Value} {K : List It} {j : Nat} {o : Option It} {ov : Value} {m : Str → Option Value} {x lx : Str} {scope : Scope} {px pl q1 q2 q3 q4 pos : Pos} {Q : Value → Shared → Prop}
    (hh : A.handled = none) (hu : A.units + 6 < cLine) (h0 : 0 ≤ M) (ok : ∀ x ∈ K, x.ok M) (oko : ∀ z, o = some z → z.ok M)
    (hl : s.heap.get? l = some (listOf us.toArray j)) (ha : All2 (RepK s.heap) us K) (hz : K.length < 1000) (hc : ∃ oc, s.heap.get? c = some oc ∧ oc.data = .cell (some ov)) (ro : RepO s.heap ov o)
    (hn : s.heap.Ns env.locals m) (hm : m lx = some (.ref l))
    (hQ : ∀ s' D fs j, Grow s s' → s.heap.get? D = none → s'.heap.get? D = some (listOf fs.toArray j) → All2 (RepK s.heap) fs (K.filter (gtO M o)) → fs.length < 1000 → Q (.ref D) s')
    (hk : env.scope.kind = .function := by rfl) (hll : env.kindOf lx = some .local := by rfl) (hdl : (lx == ("__debug__" : Str)) = false := by decide)
    (hs : ∀ y, foldedSetIterable (.Name lx pl) env y = pure y := by intro _; rfl) (hclos : closureFor scope env = pure [(("key" : Str), c)] := by rfl) (hcell : ∀ y ∈ scope.names, y.2 ≠ .cell := by decide) (hkind : scope.kind = .function := by rfl)
    (hnames : (scope.names.all fun y => y.2 != .local || (compScope scope env).names.lookup y.1 == some .local) = true := by rfl) (hx : (compScope scope env).names.lookup x = some .local := by rfl) (hkx : (compScope scope env).names.lookup ("key" : Str) = some .cell := by rfl)
    (hdx : (x == ("__debug__" : Str)) = false := by decide) :
    wpAny (model prog w) A (eval (.ListComp (.Name x q1) [⟨.Name x px, .Name lx pl, [.Compare (.Name x q2) [.Gt] [.Name "key" q3] q4], 0⟩] scope pos) env) Q E s := by
  refine listComp1 (RA := fun v x => RepK s.heap v x ∧ x.ok M) (RO := fun v x _ => RepK s.heap v x) (X := K) (p := gtO M o) (f := fun x => x) (cl := [(("key" : Str), c)]) hh (fun _ _ _ _ r _ => r) (ldE hn hm (srcList (.refl _) hl ?_) hk hll hdl) (by omega) ?_ ?_ ?_ hs hclos hcell hkind hnames hx
  · clear hz hl hQ
    induction ha with
    | nil => exact .nil
    | cons r _ ih => exact .cons ⟨r, ok _ (.head _)⟩ (ih fun x hx => ok x (.tail _ hx))
  · intro v x' s₁ Lc m' g ⟨rv, okx⟩ hn' hv
    refine conds_one (wpAny_isTrue_Compare1 (ldE (env := compEnv scope env Lc [(("key" : Str), c)]) hn' hv ?_ hkind hx hdx) (by with_unfolding_all rfl))
    obtain ⟨oc, ho, hd⟩ := hc
    refine ldCell (env := compEnv scope env Lc [(("key" : Str), c)]) (a := c) rfl (g.keep _ _ ho) hd ?_ hkind hkx (by decide)
    exact cmp_ofGt (gtRO h0 okx oko (rv.keep g.keep) (ro.keep g.keep) hu _ _ _ _ (wpAny_truthy_bool ⟨.refl _, rfl⟩))
  · intro v x' s₁ Lc m' g ⟨rv, okx⟩ _ hn' hv
    refine ldE (env := compEnv scope env Lc [(("key" : Str), c)]) hn' hv ⟨.refl _, rv, fun c hc => ?_⟩ hkind hx hdx
    obtain ⟨p, t, iv, rfl, hp, _⟩ := rv
    rw [List.mem_singleton.mp hc]
    refine ⟨fun q => ?_, .inr fun q => ?_⟩
    · rw [g.keep _ _ hp] at q; cases q
    · rw [hp] at q; cases q
  · intro s' D fs j g nD hD ha' hle _
    rw [List.map_id'] at ha'
    exact hQ s' D fs j g nD hD ha' (by omega)

set_option maxHeartbeats 4000000 in
theorem unlike_call {R : Result → Shared → Prop} (fn : Fn s.heap f "_law_unlike" (stmtAt pg3 4) cd) (lim : s.heap.NoLimit) (hr : A.depth < recursionLimit) (hh : A.handled = none) (hu : A.units < 7000) (hb' : Bn s.heap "len" (.builtin "len"))
    (h1 : s.heap.get? l1 = some (listOf vs.toArray j1)) (ha : All2 (RepK s.heap) vs K1) (hz : K1.length < 1000) (h2 : s.heap.get? l2 = some (listOf ws.toArray j2)) (ha' : All2 (RepK s.heap) ws K2) (hz' : K2.length < 1000) (h0 : 0 ≤ M) (ok1 : ∀ x ∈ K1, x.ok M) (ok2 : ∀ y ∈ K2, y.ok M)
    (hR : ∀ s', Grow s s' → R (.ok (.ret (.bool (unl M K1 K2)))) s') :
    codeAny (model prog w) A (.call (.ref f) ⟨[.ref l1, .ref l2], []⟩) R s := by
  refine callFnC (binds := [("ones", .ref l1), ("twos", .ref l2)]) fn lim hr (fun _ _ _ _ => rfl) (fun x hx => by
    have : x = (("ones" : Str), Value.ref l1) ∨ x = (("twos" : Str), Value.ref l2) := by simpa using hx
    rcases this with rfl | rfl
    · exact .inl rfl
    · exact .inl rfl) (fun s₁ F g => ?_)
  refine wpAny_mono (E := No) ?_ (fun _ _ q => q) fun _ _ q => q.elim
  have nL : s.heap.get? s.heap.objs.size = none := Heap.get?_none_of_le (Nat.le_refl _)
  generalize hL : s.heap.objs.size = L at F ⊢ nL
  have m1 : bindL (envOfC "_law_unlike" (scopeOf (stmtAt pg3 4)) L f cd).kindOf [("ones", .ref l1), ("twos", .ref l2)] (fun _ => none) "ones" = some (.ref l1) := rfl
  have m2 : bindL (envOfC "_law_unlike" (scopeOf (stmtAt pg3 4)) L f cd).kindOf [("ones", .ref l1), ("twos", .ref l2)] (fun _ => none) "twos" = some (.ref l2) := rfl
  generalize bindL (envOfC "_law_unlike" (scopeOf (stmtAt pg3 4)) L f cd).kindOf [("ones", .ref l1), ("twos", .ref l2)] (fun _ => none) = m at *
  generalize bindC (envOfC "_law_unlike" (scopeOf (stmtAt pg3 4)) L f cd).kindOf [("ones", .ref l1), ("twos", .ref l2)] (fun _ => none) = cm at *
  have hcl : (envOfC "_law_unlike" (scopeOf (stmtAt pg3 4)) L f cd).cells = [(("key" : Str), L + 1)] := rfl
  have ul : (A.deeper (envOfC "_law_unlike" (scopeOf (stmtAt pg3 4)) L f cd)).units + 6 < cLine := Nat.lt_of_lt_of_le (show A.units + 3 + 6 < 9000 by omega) (by decide)
  have lv := ha.length
  have lw := ha'.length
  have o1 : ∀ z ∈ opts K1 K2, ∀ y, z = some y → y.ok M := fun z hz' y e => by
    subst e
    have : y ∈ K1 ++ K2 := by simpa [opts] using hz'
    rcases List.mem_append.mp this with q | q
    · exact ok1 y q
    · exact ok2 y q
  refine wpAny_execs_cons (wpAny_For (wpAny_BinOp (wpAny_BinOp (List_ (spliced_more (Tuple_ (spliced_more ((EvI.neg EvI.const).use fun s₂ t2 g₂ => spliced_none (newTuple_ fun s₃ aB g₃ hB nB => spliced_none (newList_ fun s₄ aL g₄ hL₄ nL₄ => ?_))))))))))
  have F₄ := fcGrow F (g₂.trans (g₃.trans g₄))
  refine ldE F₄.fr.ns m1 (addLists hL₄ (F₄.fr.keep _ _ h1) (by simp; omega) fun s₅ aM g₅ nM hM => ldE (fcGrow F₄ g₅).fr.ns m2 (addLists hM ((fcGrow F₄ g₅).fr.keep _ _ h2) (by simp; omega) fun s₆ D g₆ nD hD => ?_))
  have F₆ := fcGrow F₄ (g₅.trans g₆)
  have hB₆ := (g₄.trans (g₅.trans g₆)).keep _ _ hB
  have g16 : Grow s₁ s₆ := g₂.trans (g₃.trans (g₄.trans (g₅.trans g₆)))
  have g06 : Grow s s₆ := g.trans g16
  have hAll : All2 (fun v o => ∀ h : Heap, s.heap.StaysIn h → h.get? aB = some (tupOf [.int (-1) t2]) → RepO h v o) (([Value.ref aB] ++ vs) ++ ws) (opts K1 K2) := by
    unfold opts
    rw [List.map_append]
    exact .cons (fun h _ q => ⟨aB, t2, rfl, q⟩) (((all2_some ha).mono fun _ _ _ r h k _ => r.keep k).append ((all2_some ha').mono fun _ _ _ r h k _ => r.keep k))
  have hc : (envOfC "_law_unlike" (scopeOf (stmtAt pg3 4)) L f cd).cells.lookup ("key" : Str) = some (L + 1) := rfl
  have nD5 := fcNew (fcGrow F₄ g₅) nD
  have nB5 := fcNew (fcGrow F g₂) nB
  have DL : D ≠ L := nD5.1
  have DC : D ≠ L + 1 := nD5.2.2 _ _ hc
  have BL : aB ≠ L := nB5.1
  have BC : aB ≠ L + 1 := nB5.2.2 _ _ hc
  refine forLs (X := opts K1 K2) hh hD hAll
    (fun it k s' => ∃ m' cm', Fc s.heap (envOfC "_law_unlike" (scopeOf (stmtAt pg3 4)) L f cd) s'.heap m' cm' ∧ m' "ones" = some (.ref l1) ∧ m' "twos" = some (.ref l2) ∧ s'.os = s.os ∧ s'.gens = s.gens ∧
      s'.heap.get? aB = some (tupOf [.int (-1) t2]) ∧ ((opts K1 K2).take k).any (clashO M K1 K2) = false) ?_ ?_ ?_ ?_
  · rintro it k s₇ s₈ ni ⟨m', cm', F', e1, e2, os, gens, hb, hn⟩ x
    have nw := fcNew F₆ ni
    have iB : aB ≠ it := fun q => by rw [← q, hB₆] at ni; cases ni
    exact ⟨m', cm', fcExL F' x nw.1 nw.2.1 nw.2.2, e1, e2, x.os.trans os, x.gens.trans gens, x.keep _ _ iB hb, hn⟩
  · intro it s₇ ni g₇
    exact ⟨m, cm, fcGrow F₆ g₇, m1, m2, (g06.trans g₇).os, (g06.trans g₇).gens, g₇.keep _ _ hB₆, by simp⟩
  · rintro it k v s₇ hk ni il itz rv ⟨m', cm', F', e1, e2, os, gens, hb, hn⟩
    have nw := fcNew F₆ ni
    have iL : it ≠ L := nw.1
    have iC : it ≠ L + 1 := nw.2.2 _ _ hc
    refine stCe F' hc fun s₈ F₈ x8 => ?_
    have hb8 := x8.keep _ _ BC hb
    have ro : RepO s₈.heap v (opts K1 K2)[k] := rv _ F₈.fr.keep hb8
    have oko := o1 _ (List.getElem_mem hk)
    have a1 : All2 (RepK s₈.heap) vs K1 := ha.mono fun _ _ _ r => r.keep F₈.fr.keep
    have hcell : ∃ oc, s₈.heap.get? (L + 1) = some oc ∧ oc.data = .cell (some v) := by
      obtain ⟨oc, ho, hd⟩ := F₈.cl.cell _ _ hc
      rw [upd_same] at hd
      exact ⟨oc, ho, hd⟩
    refine wpAny_execs_cons (wpAny_Assign_Name (wpAny_BinOp (sliceTo (k := 1) (compGt (c := L + 1) hh ul h0 ok1 oko (F₈.fr.keep _ _ h1) a1 hz hcell ro F₈.fr.ns e1 fun s₉ D1 fs1 k1 g₉ nD1 hD1 A1 z1 => ?_))))
    refine ⟨D1, fs1, k1, rfl, hD1, by omega, fun sa B1 ga nB1 hB1 => ?_⟩
    have g8a := g₉.trans ga
    have Fa := fcGrow F₈ g8a
    obtain ⟨oc, hoc, hdc⟩ := hcell
    refine sliceTo (k := 1) (compGt (c := L + 1) hh ul h0 ok2 oko (Fa.fr.keep _ _ h2) (ha'.mono fun _ _ _ r => r.keep Fa.fr.keep) hz' ⟨oc, g8a.keep _ _ hoc, hdc⟩ (ro.keep g8a.keep) Fa.fr.ns e2 fun sb D2 fs2 k2 gb nD2 hD2 A2 z2 => ?_)
    refine ⟨D2, fs2, k2, rfl, hD2, by omega, fun sc B2 gc nB2 hB2 => ?_⟩
    have gac := gb.trans gc
    have t1 : (fs1.take 1).length ≤ 1 := by rw [List.length_take]; omega
    have t2' : (fs2.take 1).length ≤ 1 := by rw [List.length_take]; omega
    refine addLists (gac.keep _ _ hB1) hB2 (by omega) fun sd N gd nN hN => ?_
    have g8d := g8a.trans (gac.trans gd)
    have Fd := fcGrow F₈ g8d
    have nNn := fcNew (fcGrow F₈ (g8a.trans gac)) nN
    refine stL Fd fun se Fe xe => ?_
    have hNe := xe.keep _ _ nNn.1 hN
    have mN : upd m' "nexts" (.ref N) "nexts" = some (.ref N) := upd_same
    have f1 : upd m' "nexts" (.ref N) "ones" = some (.ref l1) := upd_ne (by decide) e1
    have f2 : upd m' "nexts" (.ref N) "twos" = some (.ref l2) := upd_ne (by decide) e2
    generalize upd m' "nexts" (.ref N) = me at *
    have tk : (opts K1 K2).take (k + 1) = (opts K1 K2).take k ++ [(opts K1 K2)[k]] := List.take_succ_eq_append_getElem hk
    have hcO : clashO M K1 K2 (opts K1 K2)[k] = clashB (K1.filter (gtO M (opts K1 K2)[k])) (K2.filter (gtO M (opts K1 K2)[k])) := rfl
    have os_e : se.os = s.os := xe.os.trans (g8d.os.trans (x8.os.trans os))
    have gens_e : se.gens = s.gens := xe.gens.trans (g8d.gens.trans (x8.gens.trans gens))
    have hbe := xe.keep _ _ BL (g8d.keep _ _ hb8)
    have fin : ∀ sz, Grow se sz → clashO M K1 K2 (opts K1 K2)[k] = false → (Flow.next = .next ∧ Stay [it, D] s₇.heap sz.heap ∧ ∃ m' cm', Fc s.heap (envOfC "_law_unlike" (scopeOf (stmtAt pg3 4)) L f cd) sz.heap m' cm' ∧ m' "ones" = some (.ref l1) ∧ m' "twos" = some (.ref l2) ∧ sz.os = s.os ∧ sz.gens = s.gens ∧
      sz.heap.get? aB = some (tupOf [.int (-1) t2]) ∧ ((opts K1 K2).take (k + 1)).any (clashO M K1 K2) = false) := by
      intro sz gz hcf
      refine ⟨rfl, fun b hb o e => ?_, me, _, fcGrow Fe gz, f1, f2, gz.os.trans os_e, gz.gens.trans gens_e, gz.keep _ _ hbe, ?_⟩
      · have : b ≠ L ∧ b ≠ L + 1 := by
          rcases List.mem_cons.mp hb with rfl | hb
          · exact ⟨iL, iC⟩
          · rw [List.mem_singleton.mp hb]; exact ⟨DL, DC⟩
        exact gz.keep _ _ (xe.keep _ _ this.1 (g8d.keep _ _ (x8.keep _ _ this.2 e)))
      · rw [tk, List.any_append, hn]; simp [hcf]
    have finT : ∀ sz, Grow se sz → clashO M K1 K2 (opts K1 K2)[k] = true → R (.ok (.ret (.bool true))) sz := by
      intro sz gz hct
      have hu' : unl M K1 K2 = true := by
        unfold unl
        rw [List.any_eq_true]
        exact ⟨_, List.getElem_mem hk, hct⟩
      have := hR sz ⟨(fcGrow Fe gz).fr.keep, gz.os.trans os_e, gz.gens.trans gens_e⟩
      rw [hu'] at this; exact this
    have hlen : (fs1.take 1 ++ fs2.take 1).length < 1000000 := by rw [List.length_append]; omega
    refine wpAny_execs_cons (wpAny_If (isTrue_and (wpAny_isTrue_Compare1 ((EvI.len (nameBE Fe.fr.keep hb' ⟨rfl, rfl⟩) (EvV.name Fe.fr.ns mN) hNe hlen).use fun sf tf gf => EvI.const.use fun sg tg gg => eq_int (wpAny_truthy_bool ?_)))))
    have gfg := gf.trans gg
    rw [hcO] at fin finT
    generalize K1.filter (gtO M (opts K1 K2)[k]) = Z1 at *
    generalize K2.filter (gtO M (opts K1 K2)[k]) = Z2 at *
    have short : (fs1.take 1 ++ fs2.take 1).length < 2 → clashB Z1 Z2 = false := by
      intro q
      cases A1 with
      | nil => cases Z2 <;> rfl
      | cons _ _ => cases A2 with
        | nil => rfl
        | cons _ _ => simp at q
    by_cases hsh : (fs1.take 1 ++ fs2.take 1).length < 2
    · have e : (((fs1.take 1 ++ fs2.take 1).length : Int) == 2) = false := by simp only [beq_eq_false_iff_ne]; omega
      rw [e, if_neg (by decide), if_neg (by decide)]
      repeat refine wpAny_execs_nil ?_
      exact .inl (fin sg gfg (short hsh))
    · cases A1 with
      | nil => exact absurd (by simp; omega) hsh
      | cons r1 _ =>
        cases A2 with
        | nil => exact absurd (by simp) hsh
        | cons r2 _ =>
          rename_i v1 x1 _ _ _ v2 x2 _ _ _
          obtain ⟨p1, tt1, iv1, rfl, hp1, _⟩ := r1
          obtain ⟨p2, tt2, iv2, rfl, hp2, _⟩ := r2
          rw [show ((((List.take 1 (Value.ref p1 :: _) ++ List.take 1 (Value.ref p2 :: _)).length : Nat) : Int) == 2) = true from rfl, if_pos rfl]
          have hp1e : se.heap.get? p1 = some (tupOf [.int (x1.kind : Nat) tt1, iv1]) := xe.keep _ _ (fun q => by
            obtain ⟨es, n, o, ho, hdd⟩ := frDict F₈.fr
            rw [q] at hp1
            have ho' : s₈.heap.get? L = some o := ho
            rw [show (envOfC "_law_unlike" (scopeOf (stmtAt pg3 4)) L f cd).locals = L from rfl, ho'] at hp1; cases hp1; cases hdd) (g8d.keep _ _ hp1)
          have hp2e : se.heap.get? p2 = some (tupOf [.int (x2.kind : Nat) tt2, iv2]) := xe.keep _ _ (fun q => by
            obtain ⟨es, n, o, ho, hdd⟩ := frDict Fa.fr
            rw [q] at hp2
            have ho' : sa.heap.get? L = some o := ho
            rw [show (envOfC "_law_unlike" (scopeOf (stmtAt pg3 4)) L f cd).locals = L from rfl, ho'] at hp2; cases hp2; cases hdd) ((gac.trans gd).keep _ _ hp2)
          have Fg := fcGrow Fe gfg
          refine isTrue_and (wpAny_isTrue_Compare1 ((EvV.tupItem (i := 0) (EvV.head (EvV.name Fg.fr.ns mN) (gfg.keep _ _ hNe)) (gfg.keep _ _ hp1e) rfl (by decide) fun _ _ => EvI.const).use fun sh gh => (EvV.tupItem (i := 0) (EvV.item (i := 1) (EvV.name (fcGrow Fg gh).fr.ns mN) ((gfg.trans gh).keep _ _ hNe) rfl (by decide) fun _ _ => EvI.const) ((gfg.trans gh).keep _ _ hp2e) rfl (by decide) fun _ _ => EvI.const).use fun si gi => ne_int (wpAny_truthy_bool ?_)))
          have gei := gfg.trans (gh.trans gi)
          have hcb : ∀ a b, clashB (x1 :: a) (x2 :: b) = ((x1.kind : Int) != (x2.kind : Int)) := by
            intro a b
            show (x1.kind != x2.kind) = _
            rw [Bool.eq_iff_iff]; simp; omega
          cases hcc : ((x1.kind : Int) != (x2.kind : Int)) with
          | false =>
            rw [if_neg (by decide), if_neg (by decide)]
            repeat refine wpAny_execs_nil ?_
            exact .inl (fin si gei ((hcb _ _).trans hcc))
          | true =>
            rw [if_pos rfl]
            refine isTrue_and_nil ?_
            rw [if_pos rfl]
            refine wpAny_execs_cons (wpAny_Return_some (wpAny_Constant_bool ?_))
            exact .inr ⟨_, rfl, finT si gei ((hcb _ _).trans hcc)⟩
  · rintro it s₇ ni ⟨m', cm', F', e1, e2, os, gens, hb, hn⟩
    rw [List.take_length] at hn
    refine wpAny_execs_cons (wpAny_Return_some ?_)
    refine wpAny_Constant_bool ?_
    have := hR s₇ ⟨F'.fr.keep, os, gens⟩
    unfold unl at this
    rw [hn] at this
    exact this
end

/-! the plain law -/
def ltU (x y : It) : Option Bool := if x.kind = y.kind then some (x.lt y) else none
def gtU (x y : It) : Bool := y.lt x
def gtc (M c : Int) (X : List It) : List It := X.filter fun x => decide (x.rk M > c)
def unk (M : Int) (X Y : List It) : Bool := clashB X Y || (X ++ Y).any fun z => clashB (gtc M (z.rk M) X) (gtc M (z.rk M) Y)

theorem unl_eq (M : Int) (X Y : List It) : unl M X Y = unk M X Y := by
  unfold unl opts unk
  rw [List.any_cons, List.any_map]
  have e : clashO M X Y none = clashB X Y := by
    unfold clashO
    have q : ∀ l : List It, l.filter (gtO M none) = l := fun l => List.filter_eq_self.mpr fun _ _ => rfl
    rw [q, q]
  rw [e]
  rfl

theorem gtc_gtc {M c d : Int} {X : List It} (h : c ≤ d) : gtc M d (gtc M c X) = gtc M d X := by
  unfold gtc
  rw [List.filter_filter]
  refine List.filter_congr fun x _ => ?_
  rw [Bool.eq_iff_iff]
  simp
  omega
theorem gtc_all {M c : Int} {X : List It} (h : ∀ x ∈ X, x.rk M > c) : gtc M c X = X := List.filter_eq_self.mpr fun x hx => by simpa using h x hx
theorem mem_gtc {M c : Int} {X : List It} {z : It} : z ∈ gtc M c X ↔ z ∈ X ∧ z.rk M > c := by unfold gtc; simp

theorem unk_step {M c : Int} {X Y : List It} (hc : clashB X Y = false) (he : ∃ z ∈ X ++ Y, z.rk M = c) (hl : ∀ z ∈ X ++ Y, c ≤ z.rk M) : unk M X Y = unk M (gtc M c X) (gtc M c Y) := by
  unfold unk
  rw [hc, Bool.false_or, Bool.eq_iff_iff, Bool.or_eq_true, List.any_eq_true, List.any_eq_true]
  constructor
  · rintro ⟨z, hz, q⟩
    have := hl z hz
    by_cases e : z.rk M = c
    · left; rw [← e]; exact q
    · right
      refine ⟨z, ?_, ?_⟩
      · rw [List.mem_append, mem_gtc, mem_gtc]
        rcases List.mem_append.mp hz with h | h
        · exact .inl ⟨h, by omega⟩
        · exact .inr ⟨h, by omega⟩
      · rw [gtc_gtc (by omega), gtc_gtc (by omega)]; exact q
  · rintro (q | ⟨z, hz, q⟩)
    · obtain ⟨z, hz, e⟩ := he
      exact ⟨z, hz, by rw [e]; exact q⟩
    · have hz' : z ∈ X ++ Y ∧ z.rk M > c := by
        rw [List.mem_append, mem_gtc, mem_gtc] at hz
        rcases hz with h | h
        · exact ⟨List.mem_append_left _ h.1, h.2⟩
        · exact ⟨List.mem_append_right _ h.1, h.2⟩
      refine ⟨z, hz'.1, ?_⟩
      rw [gtc_gtc (by omega), gtc_gtc (by omega)] at q
      exact q

theorem gtc_run {M : Int} {x : It} : ∀ {xs : List It}, Srt (It.rk M) (x :: xs) → gtc M (x.rk M) (x :: xs) = xs.dropWhile (fun z => z.rk M == x.rk M) := by
  intro xs h
  have e : gtc M (x.rk M) (x :: xs) = gtc M (x.rk M) xs := by
    unfold gtc
    rw [List.filter_cons, if_neg (by simp)]
  rw [e]
  have h' := List.pairwise_cons.mp h
  have : ∀ xs : List It, (∀ a ∈ xs, x.rk M ≤ a.rk M) → Srt (It.rk M) xs → gtc M (x.rk M) xs = xs.dropWhile (fun z => z.rk M == x.rk M) := by
    intro xs
    induction xs with
    | nil => intro _ _; rfl
    | cons a xs ih =>
      intro ha hs
      have hs' := List.pairwise_cons.mp hs
      rw [List.dropWhile_cons]
      by_cases e : a.rk M = x.rk M
      · rw [if_pos (by simpa using e), ← ih (fun b hb => ha b (.tail _ hb)) hs'.2]
        unfold gtc
        rw [List.filter_cons, if_neg (by simp; omega)]
      · rw [if_neg (by simpa using e)]
        have h1 := ha a (.head _)
        refine gtc_all fun b hb => ?_
        rcases List.mem_cons.mp hb with rfl | hb
        · omega
        · have := hs'.1 b hb; omega
  exact this xs h'.1 h'.2

theorem dropWhile_congr' {α : Type} {p q : α → Bool} : ∀ {l : List α}, (∀ x ∈ l, p x = q x) → l.dropWhile p = l.dropWhile q
  | [], _ => rfl
  | x :: l, h => by
    rw [List.dropWhile_cons, List.dropWhile_cons, h x (.head _), dropWhile_congr' fun y hy => h y (.tail _ hy)]

theorem plainU {M : Int} (h0 : 0 ≤ M) : ∀ (N : Nat) (X Y : List It), X.length + Y.length ≤ N → Srt (It.rk M) X → Srt (It.rk M) Y → (∀ x ∈ X, x.ok M) → (∀ y ∈ Y, y.ok M) →
    sld ltU gtU It.beq X Y = if unk M X Y = true then none else sld (fun a b => some (decide (a.rk M < b.rk M))) (fun a b => decide (a.rk M > b.rk M)) (fun a b => a.rk M == b.rk M) X Y := by
  have nilU : ∀ X : List It, unk M X [] = false := by
    intro X
    unfold unk
    have : ∀ Z : List It, clashB Z [] = false := fun Z => by cases Z <;> rfl
    rw [this, Bool.false_or, List.any_eq_false]
    intro z _
    show ¬ clashB _ (gtc M _ []) = true
    rw [show gtc M (z.rk M) [] = [] from rfl, this]; simp
  have nilU' : ∀ X : List It, unk M [] X = false := by
    intro X
    unfold unk
    have : ∀ Z : List It, clashB [] Z = false := fun Z => by cases Z <;> rfl
    rw [this, Bool.false_or, List.any_eq_false]
    intro z _
    show ¬ clashB (gtc M _ []) _ = true
    rw [show gtc M (z.rk M) [] = [] from rfl, this]; simp
  intro N
  induction N with
  | zero =>
    intro X Y h _ _ _ _
    cases X with
    | nil => rw [sld_nil, sld_nil, nilU', if_neg (by decide)]
    | cons _ _ => simp at h
  | succ N ih =>
    intro X Y h sX sY oX oY
    cases X with
    | nil => rw [sld_nil, sld_nil, nilU', if_neg (by decide)]
    | cons x xs => cases Y with
      | nil => rw [sld_nil', sld_nil', nilU, if_neg (by decide)]
      | cons y ys =>
        have l1 := dropWhile_len (fun z : It => z.rk M == x.rk M) xs
        have l2 := dropWhile_len (fun z : It => z.rk M == y.rk M) ys
        have sX' := List.pairwise_cons.mp sX
        have sY' := List.pairwise_cons.mp sY
        have r1 : Srt (It.rk M) (xs.dropWhile fun z => z.rk M == x.rk M) := sX'.2.sublist (List.dropWhile_sublist _)
        have r2 : Srt (It.rk M) (ys.dropWhile fun z => z.rk M == y.rk M) := sY'.2.sublist (List.dropWhile_sublist _)
        have o1 : ∀ z ∈ xs.dropWhile (fun z => z.rk M == x.rk M), z.ok M := fun z hz => oX z (.tail _ ((List.dropWhile_sublist _).subset hz))
        have o2 : ∀ z ∈ ys.dropWhile (fun z => z.rk M == y.rk M), z.ok M := fun z hz => oY z (.tail _ ((List.dropWhile_sublist _).subset hz))
        simp only [List.length_cons] at h
        have d1 : (xs.dropWhile fun z => z.beq x) = xs.dropWhile fun z => z.rk M == x.rk M := dropWhile_congr' fun z hz => rk_eq h0 (oX z (.tail _ hz)) (oX x (.head _))
        have d2 : (ys.dropWhile fun z => z.beq y) = ys.dropWhile fun z => z.rk M == y.rk M := dropWhile_congr' fun z hz => rk_eq h0 (oY z (.tail _ hz)) (oY y (.head _))
        rw [sld_cons, sld_cons, d1, d2]
        have gX : ∀ z ∈ x :: xs, x.rk M ≤ z.rk M := fun z hz => by
          rcases List.mem_cons.mp hz with rfl | hz
          · exact Int.le_refl _
          · exact sX'.1 z hz
        have gY : ∀ z ∈ y :: ys, y.rk M ≤ z.rk M := fun z hz => by
          rcases List.mem_cons.mp hz with rfl | hz
          · exact Int.le_refl _
          · exact sY'.1 z hz
        by_cases hk : x.kind = y.kind
        · have hcl : clashB (x :: xs) (y :: ys) = false := by show (x.kind != y.kind) = false; simp [hk]
          have e1 : ltU x y = some (decide (x.rk M < y.rk M)) := by unfold ltU; rw [if_pos hk, rk_lt h0 (oX x (.head _)) (oY y (.head _)) hk]
          have e2 : gtU x y = decide (x.rk M > y.rk M) := by unfold gtU; rw [rk_lt h0 (oY y (.head _)) (oX x (.head _)) hk.symm]
          rw [e1, e2]
          have rx := gtc_run sX
          have ry := gtc_run sY
          by_cases hlt : x.rk M < y.rk M
          · rw [decide_eq_true hlt]
            dsimp only
            have us := unk_step (M := M) (c := x.rk M) hcl ⟨x, by simp, rfl⟩ (fun z hz => by
              rcases List.mem_append.mp hz with q | q
              · exact gX z q
              · have := gY z q; omega)
            rw [rx, gtc_all (fun z hz => by have := gY z hz; omega)] at us
            rw [ih _ _ (by simp only [List.length_cons]; omega) r1 sY o1 oY, us]
            split <;> rfl
          · rw [decide_eq_false hlt]
            dsimp only
            by_cases hgt : x.rk M > y.rk M
            · rw [decide_eq_true hgt]
              simp only [if_true]
              have us := unk_step (M := M) (c := y.rk M) hcl ⟨y, by simp, rfl⟩ (fun z hz => by
                rcases List.mem_append.mp hz with q | q
                · have := gX z q; omega
                · exact gY z q)
              rw [ry, gtc_all (fun z hz => by have := gX z hz; omega)] at us
              rw [ih _ _ (by simp only [List.length_cons]; omega) sX r2 oX o2, us]
              split <;> rfl
            · have heq : x.rk M = y.rk M := by omega
              rw [decide_eq_false hgt]
              simp only [Bool.false_eq_true, if_false]
              have us := unk_step (M := M) (c := x.rk M) hcl ⟨x, by simp, rfl⟩ (fun z hz => by
                rcases List.mem_append.mp hz with q | q
                · exact gX z q
                · have := gY z q; omega)
              rw [rx] at us
              have ry' : gtc M (x.rk M) (y :: ys) = ys.dropWhile (fun z => z.rk M == y.rk M) := by rw [heq]; exact ry
              rw [ry'] at us
              rw [ih _ _ (by omega) r1 r2 o1 o2, us]
        · have hcl : clashB (x :: xs) (y :: ys) = true := by show (x.kind != y.kind) = true; simp [hk]
          have e1 : ltU x y = none := by unfold ltU; rw [if_neg hk]
          have eu : unk M (x :: xs) (y :: ys) = true := by unfold unk; rw [hcl]; rfl
          rw [e1, eu, if_pos rfl]

theorem plain3 {M : Int} (h0 : 0 ≤ M) {X Y : List It} (sX : Srt (It.rk M) X) (sY : Srt (It.rk M) Y) (oX : ∀ x ∈ X, x.ok M) (oY : ∀ y ∈ Y, y.ok M) :
    sld ltU gtU It.beq X Y = if unl M X Y = true then none else some (due (It.rk M) (Y.map (It.rk M)) none X, due (It.rk M) (X.map (It.rk M)) none Y) := by
  rw [plainU h0 _ X Y (Nat.le_refl _) sX sY oX oY, unl_eq, plainDue (key := It.rk M) _ X Y (Nat.le_refl _) sX sY]

/-- tuples stand -/
def TK (h h' : Heap) : Prop := ∀ c vs, h.get? c = some (tupOf vs) → h'.get? c = some (tupOf vs)
theorem RepT.tk {h h' : Heap} {v : Value} {x : It} (r : RepT h v x) (k : TK h h') : RepT h' v x := by
  cases x with
  | num n => exact r
  | txt c k => exact r
  | pr a b => obtain ⟨p, t1, t2, rfl, hp⟩ := r; exact ⟨p, t1, t2, rfl, k _ _ hp⟩
theorem RepK.tk {h h' : Heap} {v : Value} {x : It} (r : RepK h v x) (k : TK h h') : RepK h' v x := by
  obtain ⟨p, t, iv, rfl, hp, r⟩ := r
  exact ⟨p, t, iv, rfl, k _ _ hp, r.tk k⟩
theorem TK.exL {L : Addr} {s s' : Shared} (hL : ∃ es n o, s.heap.get? L = some o ∧ o.data = .dict es n) (x : ExL L s s') : TK s.heap s'.heap := fun c vs e => x.keep c _ (fun q => by
  obtain ⟨es, n, o, ho, hd⟩ := hL
  rw [q, ho] at e; cases e; cases hd) e
theorem TK.kp {L : Addr} {h h' : Heap} (hL : ∃ es n o, h.get? L = some o ∧ o.data = .dict es n) (x : Kp [L] h h') : TK h h' := fun c vs e => x.keep c _ e (fun q => by
  obtain ⟨es, n, o, ho, hd⟩ := hL
  rw [List.mem_singleton.mp q, ho] at e; cases e; cases hd)

theorem Fly.rebase {h₀ hm h : Heap} {S : List Addr} {a e : Addr} {cls : String} {tr : Bool} {c : Value} (kp : Kp S h₀ hm) (X : Fly hm.get? (a :: S) e cls tr c h) (na : h₀.get? a = none) : Fly h₀.get? S e cls tr c h := by
  have nn : ∀ {b : Addr}, hm.get? b = none → h₀.get? b = none := fun {b} q => by
    cases q' : h₀.get? b with
    | none => rfl
    | some o => obtain ⟨sl, q''⟩ := kp.slot _ _ q'; rw [q] at q''; cases q''
  refine ⟨fun b o q n => X.keep b o (kp.keep b o q n) fun hb => ?_, fun b o q => ?_, nn X.new, ?_⟩
  · rcases List.mem_cons.mp hb with r | r
    · rw [r, na] at q; cases q
    · exact n r
  · obtain ⟨sl, q'⟩ := kp.slot b o q
    obtain ⟨sl', q''⟩ := X.slot b _ q'
    exact ⟨sl', q''⟩
  · obtain ⟨oe, vs, h1, h2, h3, h4, h5, h6⟩ := X.there
    refine ⟨oe, vs, h1, h2, h3, h4, h5, ?_⟩
    cases tr with
    | false => exact h6
    | true =>
      obtain ⟨T, oT, ts, a1, a2, a3, a4, a5, a6⟩ := h6
      exact ⟨T, oT, ts, a1, nn a2, a3, a4, a5, a6⟩

section
variable {prog : Program} {w : World} {h₀ : Heap} {L : Addr} {M : Int}
theorem cl9 : (9100 : Nat) ≤ cLine := by decide
abbrev RepU (M : Int) (h : Heap) (v : Value) (x : It) : Prop := RepT h v x ∧ x.ok M
theorem eqU (hL : ∃ es n o, h₀.get? L = some o ∧ o.data = .dict es n) : EqOk prog w [L] h₀ (RepU M h₀) It.beq := by
  intro A E s Q v u x y kp hu ⟨rv, ox⟩ ⟨ru, oy⟩ h
  have k := TK.kp hL kp
  have cl := cl9
  have e : wpAny (model prog w) A (richCompare .Eq v u) Q E s := by
    have q := h s (.refl _)
    have rv' := rv.tk k
    have ru' := ru.tk k
    cases x with
    | num n =>
      obtain ⟨t, rfl⟩ := rv'
      cases y with
      | num m => obtain ⟨t', rfl⟩ := ru'; exact RcAt.int_int n t m t' _ _ _ _ q
      | txt c k => obtain ⟨t', rfl⟩ := ru'; exact RcAt.int_str n t _ t' _ _ _ _ q
      | pr a b => obtain ⟨p, t1, t2, rfl, hp⟩ := ru'; exact RcAt.int_tuple (items := [.int a t1, .int b t2].toArray) n t ⟨_, hp, rfl, _, rfl⟩ (by omega) _ _ _ _ q
    | txt c k =>
      obtain ⟨t, rfl⟩ := rv'
      cases y with
      | num m => obtain ⟨t', rfl⟩ := ru'; exact RcAt.str_int _ t m t' _ _ _ _ q
      | txt c' k' =>
        obtain ⟨t', rfl⟩ := ru'
        have e : (word c k == word c' k') = (c == c' && k == k') := by
          rw [← word_eq c ox.1 k (by have := ox.2.2; omega) c' oy.1 k' (by have := oy.2.2; omega) ox.2.1 oy.2.1]
          rw [Bool.eq_iff_iff]
          simp [word]
        have q' : Q (.bool (word c k == word c' k')) s := by rw [e]; exact q
        exact RcAt.str_str _ t _ t' _ _ _ _ q'
      | pr a b => obtain ⟨p, t1, t2, rfl, hp⟩ := ru'; exact RcAt.str_tuple (items := [.int a t1, .int b t2].toArray) _ t ⟨_, hp, rfl, _, rfl⟩ (by omega) _ _ _ _ q
    | pr a b =>
      obtain ⟨p, t1, t2, rfl, hp⟩ := rv'
      cases y with
      | num m => obtain ⟨t', rfl⟩ := ru'; exact RcAt.tuple_int (items := [.int a t1, .int b t2].toArray) m t' ⟨_, hp, rfl, _, rfl⟩ (by omega) _ _ _ _ q
      | txt c' k' => obtain ⟨t', rfl⟩ := ru'; exact RcAt.tuple_str (items := [.int a t1, .int b t2].toArray) _ t' ⟨_, hp, rfl, _, rfl⟩ (by omega) _ _ _ _ q
      | pr a' b' =>
        obtain ⟨p', t3, t4, rfl, hp'⟩ := ru'
        have := RcAt.tuples (A := A) (s := s) (e := fun j => if j = 0 then a == a' else b == b') (l := p) (b := p') (items := [.int a t1, .int b t2].toArray) (items2 := [.int a' t3, .int b' t4].toArray) ⟨_, hp, rfl, _, rfl⟩ ⟨_, hp', rfl, _, rfl⟩ (by omega) (fun j h1 h2 => by
          match j, h1 with
          | 0, _ => exact EqAt.int_int a t1 a' t3
          | 1, _ => exact EqAt.int_int b t2 b' t4)
        have e2 : (((List.range (min [Value.int a t1, .int b t2].toArray.size [Value.int a' t3, .int b' t4].toArray.size)).all fun j => if j = 0 then a == a' else b == b') && [Value.int a t1, .int b t2].toArray.size == [Value.int a' t3, .int b' t4].toArray.size) = It.beq (.pr a b) (.pr a' b') := by
          show ((a == a') && ((b == b') && true) && true) = ((a == a') && (b == b'))
          simp
        rw [e2] at this
        exact this _ _ _ _ q
  exact e
theorem ltUok (hL : ∃ es n o, h₀.get? L = some o ∧ o.data = .dict es n) : LtOk prog w [L] h₀ (RepU M h₀) ltU := by
  intro A E s Q v u x y kp hu hh ⟨rv, ox⟩ ⟨ru, oy⟩ h hn
  have k := TK.kp hL kp
  have cl := cl9
  have rv' := rv.tk k
  have ru' := ru.tk k
  by_cases hk : x.kind = y.kind
  · exact cmp_ofLt (ltT ox oy hk rv' ru' (by omega) _ _ _ _ (h _ (by unfold ltU; rw [if_pos hk]) s (.refl _)))
  · have hn' := hn (by unfold ltU; rw [if_neg hk])
    cases x with
    | num n =>
      obtain ⟨t, rfl⟩ := rv'
      cases y with
      | num m => exact absurd rfl hk
      | txt c k => obtain ⟨t', rfl⟩ := ru'; exact lt_int_str' hh hn'
      | pr a b => obtain ⟨p, t1, t2, rfl, hp⟩ := ru'; exact lt_int_tup hh (by omega) hp hn'
    | txt c k =>
      obtain ⟨t, rfl⟩ := rv'
      cases y with
      | num m => obtain ⟨t', rfl⟩ := ru'; exact lt_str_int' hh (by omega) hn'
      | txt c' k' => exact absurd rfl hk
      | pr a b => obtain ⟨p, t1, t2, rfl, hp⟩ := ru'; exact lt_str_tup hh (by omega) hp hn'
    | pr a b =>
      obtain ⟨p, t1, t2, rfl, hp⟩ := rv'
      cases y with
      | num m => obtain ⟨t', rfl⟩ := ru'; exact lt_tup_int hh (by omega) hp hn'
      | txt c' k' => obtain ⟨t', rfl⟩ := ru'; exact lt_tup_str hh (by omega) hp hn'
      | pr a' b' => exact absurd rfl hk
theorem gtUok (hL : ∃ es n o, h₀.get? L = some o ∧ o.data = .dict es n) : GtOk prog w [L] h₀ (RepU M h₀) ltU gtU := by
  intro A E s Q v u x y kp hu hh ⟨rv, ox⟩ ⟨ru, oy⟩ hlt h
  have k := TK.kp hL kp
  have cl := cl9
  have hk : x.kind = y.kind := by
    by_cases q : x.kind = y.kind
    · exact q
    · unfold ltU at hlt; rw [if_neg q] at hlt; cases hlt
  exact cmp_ofGt (gtT ox oy hk (rv.tk k) (ru.tk k) (by omega) _ _ _ _ (h s (.refl _)))
end

theorem Bn.keep3 {h h' : Heap} {x : Str} {v : Value} (b : Bn h x v) (k : ∀ b o, h.get? b = some o → h'.get? b = some o) : Bn h' x v :=
  let ⟨mg, mb, g, n, b', e⟩ := b; ⟨mg, mb, g.keeps k, n, b'.keeps k, e⟩
theorem eqList_self {α : Type} {eq : α → α → Bool} (h : ∀ x, eq x x = true) : ∀ l : List α, eqList eq l l = true
  | [] => rfl
  | x :: l => by rw [eqList, h, eqList_self h l]; rfl
theorem repT_mono : ∀ (u : Value) (b : It) (h h' : Heap), RepT h u b → (∀ c ∈ rf u, ∀ o, h.get? c = some o → h'.get? c = some o) → RepT h' u b := by
  intro u b h h' r k
  cases b with
  | num n => exact r
  | txt c k => exact r
  | pr a b => obtain ⟨p, t1, t2, rfl, hp⟩ := r; exact ⟨p, t1, t2, rfl, k p (.head _) _ hp⟩
theorem repT_nod : ∀ (u : Value) (b : It) (h : Heap), RepT h u b → ∀ c ∈ rf u, ∀ o es n, h.get? c = some o → o.data ≠ .dict es n := by
  intro u b h r c hc o es n ho q
  cases b with
  | num n => obtain ⟨t, rfl⟩ := r; cases hc
  | txt c k => obtain ⟨t, rfl⟩ := r; cases hc
  | pr a b => obtain ⟨p, t1, t2, rfl, hp⟩ := r; rw [List.mem_singleton.mp hc, hp] at ho; cases ho; cases q
theorem repT_there {h : Heap} {u : Value} {b : It} (r : RepT h u b) : ∀ c ∈ rf u, h.get? c ≠ none := by
  intro c hc q
  cases b with
  | num n => obtain ⟨t, rfl⟩ := r; cases hc
  | txt c k => obtain ⟨t, rfl⟩ := r; cases hc
  | pr a b => obtain ⟨p, t1, t2, rfl, hp⟩ := r; rw [List.mem_singleton.mp hc, hp] at q; cases q

section
variable {prog : Program} {w : World} {A : Around} {s : Shared} {M : Int}

/-- key[1] -/
theorem key1 {env : Env} {s₀ s₁ : Shared} {v : Value} {x : It} {m' : Str → Option Value} {q1 q2 q3 : Pos} {kc : Nat} (g : Grow s₀ s₁) (r : RepK s₀.heap v x) (hn : s₁.heap.Ns env.locals m') (hv : m' "key" = some v)
    (hk : env.scope.kind = .function) (hl : env.kindOf "key" = some .local) :
    wpAny (model prog w) A (eval (.Subscript (.Name "key" q1) (.Constant (.int 1) kc q2) q3) env) (fun u s₂ => Grow s₁ s₂ ∧ RepT s₂.heap u x ∧ ∀ c ∈ rf u, s₂.heap.get? c ≠ none ∧ (s₁.heap.get? c = none ∨ s₀.heap.get? c ≠ none)) No s₁ := by
  obtain ⟨p, t, iv, rfl, hp, r⟩ := r
  refine (EvV.tupItem (i := 1) (EvV.name hn hv hk hl) (g.keep _ _ hp) rfl (by decide) fun _ _ => EvI.const).use fun s₂ g₂ => ⟨g₂, r.keep (g.trans g₂).keep, fun c hc => ⟨?_, .inr (repT_there r c hc)⟩⟩
  exact repT_there (r.keep (g.trans g₂).keep) c hc

theorem law03b {base : Heap} {L fa D1 D2 E1 E2 f4 f5 : Addr} {cd tv c4 c5 : Value} {m : Str → Option Value} {o1 o2 us1 us2 : List Value} {K1 K2 : List It} {j1 j2 j3 j4 : Nat} {Q : Flow → Shared → Prop} (F : Fr base L s.heap m) (hh : A.handled = none) (hr : A.depth < recursionLimit) (hu : A.units < 6000) (lim : base.NoLimit)
    (G4 : Gn base "_law_unlike" (.ref f4)) (fn4 : Fn base f4 "_law_unlike" (stmtAt pg3 4) c4) (G5 : Gn base "_law_due" (.ref f5)) (fn5 : Fn base f5 "_law_due" (stmtAt pg3 5) c5) (hRg : Bn base "range" (.type "range")) (hLn : Bn base "len" (.builtin "len"))
    (m1 : m "ones" = some (.ref D1)) (m2 : m "twos" = some (.ref D2)) (m3 : m "expected" = some (.ref E1)) (m4 : m "actual" = some (.ref E2)) (m5 : m "told" = some tv)
    (h1 : s.heap.get? D1 = some (listOf o1.toArray j1)) (h2 : s.heap.get? D2 = some (listOf o2.toArray j2)) (h3 : s.heap.get? E1 = some (listOf us1.toArray j3)) (h4 : s.heap.get? E2 = some (listOf us2.toArray j4))
    (a1 : All2 (RepK s.heap) o1 K1) (a2 : All2 (RepK s.heap) o2 K2) (a3 : All2 (RepT s.heap) us1 K1) (a4 : All2 (RepT s.heap) us2 K2) (h0 : 0 ≤ M) (ok1 : ∀ x ∈ K1, x.ok M) (ok2 : ∀ x ∈ K2, x.ok M) (z1 : K1.length < 1000) (z2 : K2.length < 1000)
    (s1 : Srt (It.rk M) K1) (s2 : Srt (It.rk M) K2)
    (ht : (unl M K1 K2 = true ∧ tv = .none) ∨ (unl M K1 K2 = false ∧ ∃ t aM aU ms us n1 n2, tv = .ref t ∧ s.heap.get? t = some (tupOf [.ref aM, .ref aU]) ∧ s.heap.get? aM = some (listOf ms.toArray n1) ∧ s.heap.get? aU = some (listOf us.toArray n2) ∧
      All2 (RepT s.heap) ms (due (It.rk M) (K2.map (It.rk M)) none K1) ∧ All2 (RepT s.heap) us (due (It.rk M) (K1.map (It.rk M)) none K2)))
    (hQ : ∀ s' m', Fr base L s'.heap m' → s'.os = s.os → s'.gens = s.gens → Q (.ret (.bool true)) s') :
    wpAny (model prog w) A (execs ((bodyOf (stmtAt pg3 6)).drop 5) (envOf "law" (scopeOf (stmtAt pg3 6)) L fa cd)) Q No s := by
  have cl := cl9
  have ul : A.units + 20 < cLine := by omega
  have idf : ∀ N : List It, (N.filter fun _ => true).map (fun n => n) = N := fun N => by rw [List.filter_eq_self.mpr fun _ _ => rfl, List.map_id']
  have eqx : ∀ {s' : Shared} (u : Value) (x : It) (v : Value) (y : It), (RepT s'.heap u x ∧ x.ok M) → (RepT s'.heap v y ∧ y.ok M) → EqAt A.in1 s' u v (x.beq y) := fun u x v y r r' => eqT r.2 r'.2 r.1 r'.1 (by show A.units + 1 + 2 < cLine; omega)
  have withOk : ∀ {h : Heap} {us : List Value} {K : List It}, All2 (RepT h) us K → (∀ x ∈ K, x.ok M) → All2 (fun u x => RepT h u x ∧ x.ok M) us K := by
    intro h us K ha
    induction ha with
    | nil => exact fun _ => .nil
    | cons r _ ih => exact fun ok => .cons ⟨r, ok _ (.head _)⟩ (ih fun x hx => ok x (.tail _ hx))
  refine wpAny_execs_cons (wpAny_If (isTrue_or (wpAny_isTrue_Compare1 (ld F m3 (listComp1 (RA := RepK s.heap) (RO := fun u x h => RepT h u x) (X := K1) (p := fun _ => true) (f := fun n => n) (cl := []) hh repT_mono (ld F m1 (srcList (.refl _) h1 a1)) (by omega) (fun v a' s₁ Lc m' g rv hn hv => conds_nil ⟨.refl _, rfl⟩) (fun v a' s₁ Lc m' g rv _ hn hv => key1 g rv hn hv rfl rfl) fun s₁ B1 vs1 k1 g₁ nB1 hB1 b1 l1 _ => ?_)))))
  rw [idf] at b1
  refine cmp_ofNotEq (neList (eq := It.beq) (g₁.keep _ _ h3) hB1 (by omega) (withOk (a3.mono fun _ _ _ r => RepT.keep r g₁.keep) ok1) (withOk b1 ok1) eqx _ _ _ _ (wpAny_truthy_bool ?_))
  rw [eqList_self (fun x => It.beq_self), if_neg (by decide)]
  have F₁ := frGrow F g₁
  refine isTrue_or (wpAny_isTrue_Compare1 (ld F₁ m4 (listComp1 (RA := RepK s₁.heap) (RO := fun u x h => RepT h u x) (X := K2) (p := fun _ => true) (f := fun n => n) (cl := []) hh repT_mono (ld F₁ m2 (srcList (.refl _) (g₁.keep _ _ h2) (a2.mono fun _ _ _ r => RepK.keep r g₁.keep))) (by omega) (fun v a' s₁ Lc m' g rv hn hv => conds_nil ⟨.refl _, rfl⟩) (fun v a' s₁ Lc m' g rv _ hn hv => key1 g rv hn hv rfl rfl) fun s₂ B2 vs2 k2 g₂ nB2 hB2 b2 l2 _ => ?_)))
  rw [idf] at b2
  have g02 := g₁.trans g₂
  refine cmp_ofNotEq (neList (eq := It.beq) (g02.keep _ _ h4) hB2 (by omega) (withOk (a4.mono fun _ _ _ r => RepT.keep r g02.keep) ok2) (withOk b2 ok2) eqx _ _ _ _ (wpAny_truthy_bool ?_))
  rw [eqList_self (fun x => It.beq_self), if_neg (by decide)]
  refine isTrue_or_nil ?_
  rw [if_neg (by decide)]
  refine wpAny_execs_nil ?_
  have F₂ := frGrow F g02
  -- if _law_unlike(ones, twos)
  refine wpAny_execs_cons (wpAny_If (isTrue_plain (callName F₂ G4 fn4 (spliced_more (ld F₂ m1 (spliced_more (ld F₂ m2 (spliced_none ⟨F₂.keep,
    unlike_call (fn4.keep F₂.keep) (lim.keeps F₂.keep) hr hh (by omega) (Bn.keep3 hLn F₂.keep) (g02.keep _ _ h1) (a1.mono fun _ _ _ r => RepK.keep r g02.keep) z1 (g02.keep _ _ h2) (a2.mono fun _ _ _ r => RepK.keep r g02.keep) z2 h0 ok1 ok2 fun s₃ g₃ => ?_⟩))))))))
  have g03 := g02.trans g₃
  have F₃ := frGrow F g03
  refine wpAny_truthy_bool ?_
  rcases ht with ⟨hun, rfl⟩ | ⟨hun, t, aM, aU, ms, us, n1, n2, rfl, htt, hM, hU, am, au⟩
  · rw [hun, if_pos rfl]
    refine wpAny_execs_cons (wpAny_Return_some (wpAny_Compare1 (ld F₃ m5 (wpAny_Constant_none (wpAny_is_self rfl ?_)))))
    exact hQ s₃ m F₃ g03.os g03.gens
  · rw [hun, if_neg (by decide)]
    refine wpAny_execs_nil ?_
    have p1 : (K1.map (It.rk M)).Pairwise (· ≤ ·) := by rw [List.pairwise_map]; exact s1
    have p2 : (K2.map (It.rk M)).Pairwise (· ≤ ·) := by rw [List.pairwise_map]; exact s2
    refine wpAny_execs_cons (wpAny_Return_some (wpAny_Compare1 (ld F₃ m5 (Tuple_ (spliced_more (callName F₃ G5 fn5 (spliced_more (ld F₃ m1 (spliced_more (ld F₃ m2 (spliced_none ⟨F₃.keep,
      due3_call (fn5.keep F₃.keep) (lim.keeps F₃.keep) hr hh (by omega) (Bn.keep3 hRg F₃.keep) (Bn.keep3 hLn F₃.keep) (g03.keep _ _ h1) (a1.mono fun _ _ _ r => RepK.keep r g03.keep) z1 (g03.keep _ _ h2) (a2.mono fun _ _ _ r => RepK.keep r g03.keep) z2 h0 ok1 ok2 p2 fun s₄ V1 w1 jv1 g₄ nV1 hV1 d1 => ?_⟩)))))))))))
    have F₄ := frGrow F₃ g₄
    have g04 := g03.trans g₄
    refine spliced_more (callName F₄ G5 fn5 (spliced_more (ld F₄ m2 (spliced_more (ld F₄ m1 (spliced_none ⟨F₄.keep,
      due3_call (fn5.keep F₄.keep) (lim.keeps F₄.keep) hr hh (by omega) (Bn.keep3 hRg F₄.keep) (Bn.keep3 hLn F₄.keep) (g04.keep _ _ h2) (a2.mono fun _ _ _ r => RepK.keep r g04.keep) z2 (g04.keep _ _ h1) (a1.mono fun _ _ _ r => RepK.keep r g04.keep) z1 h0 ok2 ok1 p1 fun s₅ V2 w2 jv2 g₅ nV2 hV2 d2 => ?_⟩))))))
    refine spliced_none (newTuple_ fun s₆ T g₆ hT nT => ?_)
    have g36 := g₄.trans (g₅.trans g₆)
    have g06 := g03.trans g36
    have dueOk : ∀ (B : List Int) (K : List It) (p : Option Int), (∀ x ∈ K, x.ok M) → ∀ x ∈ due (It.rk M) B p K, x.ok M := by
      intro B K
      induction K with
      | nil => intro p _ x hx; cases hx
      | cons a K ih =>
        intro p ok x hx
        rw [due] at hx
        split at hx
        · rcases List.mem_cons.mp hx with rfl | hx
          · exact ok _ (.head _)
          · exact ih _ (fun y hy => ok y (.tail _ hy)) x hx
        · exact ih _ (fun y hy => ok y (.tail _ hy)) x hx
    have it1 : s₆.heap.IsTuple t [Value.ref aM, .ref aU].toArray := ⟨_, g06.keep _ _ htt, rfl, _, rfl⟩
    have it2 : s₆.heap.IsTuple T [Value.ref V1, .ref V2].toArray := ⟨_, hT, rfl, _, rfl⟩
    have ne1 : aM ≠ V1 := fun q => by rw [← q, g03.keep _ _ hM] at nV1; cases nV1
    have ne2 : aU ≠ V2 := fun q => by rw [← q, g04.keep _ _ hU] at nV2; cases nV2
    have eqx' : ∀ (u : Value) (x : It) (v : Value) (y : It), (RepT s₆.heap u x ∧ x.ok M) → (RepT s₆.heap v y ∧ y.ok M) → EqAt A.in1.in1 s₆ u v (x.beq y) := fun u x v y r r' => eqT r.2 r'.2 r.1 r'.1 (by show A.units + 1 + 1 + 2 < cLine; omega)
    refine eq_tupleAt (e := fun _ => true) it1 it2 (by omega) (fun j h1 h2 => ?_) ?_
    · match j, h1 with
      | 0, _ =>
        have := eqAtList (A := A.in1) (eq := It.beq) (g06.keep _ _ hM) ((g₅.trans g₆).keep _ _ hV1) ne1 (by show A.units + 1 < cLine; omega) (withOk (am.mono fun _ _ _ r => RepT.keep r g06.keep) (dueOk _ _ _ ok1)) (withOk (d1.mono fun _ _ _ r => RepT.keep r g36.keep) (dueOk _ _ _ ok1)) eqx'
        rw [eqList_self (fun x => It.beq_self)] at this
        exact this
      | 1, _ =>
        have := eqAtList (A := A.in1) (eq := It.beq) (g06.keep _ _ hU) (g₆.keep _ _ hV2) ne2 (by show A.units + 1 < cLine; omega) (withOk (au.mono fun _ _ _ r => RepT.keep r g06.keep) (dueOk _ _ _ ok2)) (withOk (d2.mono fun _ _ _ r => RepT.keep r (g₅.trans g₆).keep) (dueOk _ _ _ ok2)) eqx'
        rw [eqList_self (fun x => It.beq_self)] at this
        exact this
    · exact hQ s₆ m (frGrow F₃ g36) g06.os g06.gens
end

section
variable {prog : Program} {w : World} {A : Around} {s : Shared} {base : Heap} {L fa l : Addr} {cd : Value} {m : Str → Option Value} {vs : List Value} {X : List Int}

theorem type_is_type : isSubtype (.type "TypeError") (.type "TypeError") = pure true := by rw [isSubtype_type]; kernel_rfl

set_option maxHeartbeats 4000000 in
theorem law03 {f1 f3 f4 f5 : Addr} {c1 c3 c4 c5 : Value} {Q : Flow → Shared → Prop} (F : Fr base L s.heap m) (hh : A.handled = none) (hr : A.depth < recursionLimit) (hu : A.units < 6000)
    (hst : A.frames = some [envOf "law" (scopeOf (stmtAt pg3 6)) L fa cd]) (lim : base.NoLimit)
    (ms : m "script" = some (.ref l)) (hl : base.IsList l vs.toArray) (ha : All2 RepI vs X) (hz : X.length ≤ 63)
    (G1 : Gn base "sorted_list_difference" (.ref f1)) (fn1 : Fn base f1 "sorted_list_difference" (stmtAt PySem.Challenge.pw_dn0234_03 1) c1)
    (G3 : Gn base "_law_keys" (.ref f3)) (fn3 : Fn base f3 "_law_keys" (stmtAt pg3 3) c3)
    (G4 : Gn base "_law_unlike" (.ref f4)) (fn4 : Fn base f4 "_law_unlike" (stmtAt pg3 4) c4)
    (G5 : Gn base "_law_due" (.ref f5)) (fn5 : Fn base f5 "_law_due" (stmtAt pg3 5) c5)
    (hI : Bn base "IndexError" (.type "IndexError")) (hTy : Bn base "TypeError" (.type "TypeError")) (hCh : Bn base "chr" (.builtin "chr")) (hSo : Bn base "sorted" (.builtin "sorted")) (hRg : Bn base "range" (.type "range")) (hLn : Bn base "len" (.builtin "len"))
    (hQ : ∀ s' m', Fr base L s'.heap m' → s'.os = s.os → s'.gens = s.gens → Q (.ret (.bool true)) s') :
    wpAny (model prog w) A (execs (bodyOf (stmtAt pg3 6)) (envOf "law" (scopeOf (stmtAt pg3 6)) L fa cd)) Q No s := by
  have lF : ∀ {s : Shared} {m : Str → Option Value}, Fr base L s.heap m → s.heap.get? L ≠ none := fun F q => by
    obtain ⟨o, _, _, e, _⟩ := F.ns
    rw [e] at q; cases q
  have neL : ∀ {s : Shared} {m : Str → Option Value} {a : Addr}, Fr base L s.heap m → s.heap.get? a = none → a ≠ L := fun F q r => lF F (r ▸ q)
  have hlk : ∀ {h : Heap}, base.StaysIn h → h.IsList l vs.toArray := fun k => by obtain ⟨o, ho, r⟩ := hl; exact ⟨o, k _ _ ho, r⟩
  obtain ⟨M, h0, okX⟩ := items_ok X
  have rawLen : ∀ wh : Int, (raw wh X).length ≤ 63 := fun wh => by
    unfold raw
    rw [List.length_map]
    exact Nat.le_trans (List.length_filter_le _ _) hz
  -- ones
  refine wpAny_execs_cons (wpAny_Assign_Name (callName F G3 fn3 (spliced_more (ld F ms (spliced_more (EvI.const.use fun s₁ t1 g₁ => spliced_none ⟨(frGrow F g₁).keep,
    keys_call (wh := 0) (fn3.keep (frGrow F g₁).keep) (lim.keeps (frGrow F g₁).keep) hr hh (by omega) (Bn.keep3 hCh (frGrow F g₁).keep) (Bn.keep3 hSo (frGrow F g₁).keep) (hlk (frGrow F g₁).keep) ha (by omega) h0 okX fun s₂ D1 o1 K1 j1 g₂ nD1 hD1 A1 P1 S1 => ?_⟩))))))
  have F₂ := frGrow F (g₁.trans g₂)
  refine st_ F₂ fun s₃ F₃ g₃ => ?_
  have x03 : ExL L s s₃ := (g₁.trans g₂).exL.trans g₃
  have D1L := neL (frGrow F g₁) nD1
  have hD1₃ := g₃.keep _ _ D1L hD1
  have A1₃ : All2 (RepK s₃.heap) o1 K1 := A1.mono fun _ _ _ r => RepK.tk r (TK.exL (frDict F₂) g₃)
  -- twos
  have ms₃ : upd m "ones" (.ref D1) "script" = some (.ref l) := upd_ne (by decide) ms
  refine wpAny_execs_cons (wpAny_Assign_Name (callName F₃ G3 fn3 (spliced_more (ld F₃ ms₃ (spliced_more (EvI.const.use fun s₄ t4 g₄ => spliced_none ⟨(frGrow F₃ g₄).keep,
    keys_call (wh := 1) (fn3.keep (frGrow F₃ g₄).keep) (lim.keeps (frGrow F₃ g₄).keep) hr hh (by omega) (Bn.keep3 hCh (frGrow F₃ g₄).keep) (Bn.keep3 hSo (frGrow F₃ g₄).keep) (hlk (frGrow F₃ g₄).keep) ha (by omega) h0 okX fun s₅ D2 o2 K2 j2 g₅ nD2 hD2 A2 P2 S2 => ?_⟩))))))
  have F₅ := frGrow F₃ (g₄.trans g₅)
  refine st_ F₅ fun s₆ F₆ g₆ => ?_
  have x36 : ExL L s₃ s₆ := (g₄.trans g₅).exL.trans g₆
  have D2L := neL (frGrow F₃ g₄) nD2
  have hD2₆ := g₆.keep _ _ D2L hD2
  have hD1₆ := x36.keep _ _ D1L hD1₃
  have A2₆ : All2 (RepK s₆.heap) o2 K2 := A2.mono fun _ _ _ r => RepK.tk r (TK.exL (frDict F₅) g₆)
  have A1₆ : All2 (RepK s₆.heap) o1 K1 := A1₃.mono fun _ _ _ r => RepK.tk r (TK.exL (frDict F₃) x36)
  have z1 : K1.length ≤ 63 := by rw [P1.length_eq]; exact rawLen 0
  have z2 : K2.length ≤ 63 := by rw [P2.length_eq]; exact rawLen 1
  have ok1 : ∀ x ∈ K1, x.ok M := fun x hx => raw_ok okX 0 x (P1.mem_iff.mp hx)
  have ok2 : ∀ x ∈ K2, x.ok M := fun x hx => raw_ok okX 1 x (P2.mem_iff.mp hx)
  have e1 : upd (upd m "ones" (.ref D1)) "twos" (.ref D2) "ones" = some (.ref D1) := upd_ne (by decide) upd_same
  have e2 : upd (upd m "ones" (.ref D1)) "twos" (.ref D2) "twos" = some (.ref D2) := upd_same
  generalize upd (upd m "ones" (.ref D1)) "twos" (.ref D2) = m₆ at *
  have idf : ∀ N : List It, (N.filter fun _ => true).map (fun n => n) = N := fun N => by rw [List.filter_eq_self.mpr fun _ _ => rfl, List.map_id']
  -- expected, actual
  refine wpAny_execs_cons (assignComp1 (RA := RepK s₆.heap) (RO := fun u x h => RepT h u x) (X := K1) (p := fun _ => true) (f := fun n => n) (cl := []) F₆ hh repT_mono repT_nod (ld F₆ e1 (srcList (.refl _) hD1₆ A1₆)) (by omega) (fun v a' s₁ Lc m' g rv hn hv => conds_nil ⟨.refl _, rfl⟩) (fun v a' s₁ Lc m' g rv _ hn hv => key1 g rv hn hv rfl rfl) fun s₇ E1 us1 j3 F₇ x67 nE1 hE1 B1 lB1 _ => ?_)
  rw [idf] at B1
  have E1L := neL F₆ nE1
  have hD2₇ := x67.keep _ _ D2L hD2₆
  have A2₇ : All2 (RepK s₇.heap) o2 K2 := A2₆.mono fun _ _ _ r => RepK.tk r (TK.exL (frDict F₆) x67)
  have e2₇ : upd m₆ "expected" (.ref E1) "twos" = some (.ref D2) := upd_ne (by decide) e2
  refine wpAny_execs_cons (assignComp1 (RA := RepK s₇.heap) (RO := fun u x h => RepT h u x) (X := K2) (p := fun _ => true) (f := fun n => n) (cl := []) F₇ hh repT_mono repT_nod (ld F₇ e2₇ (srcList (.refl _) hD2₇ A2₇)) (by omega) (fun v a' s₁ Lc m' g rv hn hv => conds_nil ⟨.refl _, rfl⟩) (fun v a' s₁ Lc m' g rv _ hn hv => key1 g rv hn hv rfl rfl) fun s₈ E2 us2 j4 F₈ x78 nE2 hE2 B2 lB2 _ => ?_)
  rw [idf] at B2
  have E2L := neL F₇ nE2
  have hE1₈ := x78.keep _ _ E1L hE1
  have x68 := x67.trans x78
  have hD1₈ := x68.keep _ _ D1L hD1₆
  have hD2₈ := x68.keep _ _ D2L hD2₆
  have A1₈ : All2 (RepK s₈.heap) o1 K1 := A1₆.mono fun _ _ _ r => RepK.tk r (TK.exL (frDict F₆) x68)
  have A2₈ : All2 (RepK s₈.heap) o2 K2 := A2₇.mono fun _ _ _ r => RepK.tk r (TK.exL (frDict F₇) x78)
  have B1₈ : All2 (RepT s₈.heap) us1 K1 := B1.mono fun _ _ _ r => RepT.tk r (TK.exL (frDict F₇) x78)
  have os₈ : s₈.os = s.os := x68.os.trans (x36.os.trans x03.os)
  have gens₈ : s₈.gens = s.gens := x68.gens.trans (x36.gens.trans x03.gens)
  have k1 : upd (upd m₆ "expected" (.ref E1)) "actual" (.ref E2) "ones" = some (.ref D1) := upd_ne (by decide) (upd_ne (by decide) e1)
  have k2 : upd (upd m₆ "expected" (.ref E1)) "actual" (.ref E2) "twos" = some (.ref D2) := upd_ne (by decide) e2₇
  have k3 : upd (upd m₆ "expected" (.ref E1)) "actual" (.ref E2) "expected" = some (.ref E1) := upd_ne (by decide) upd_same
  have k4 : upd (upd m₆ "expected" (.ref E1)) "actual" (.ref E2) "actual" = some (.ref E2) := upd_same
  generalize upd (upd m₆ "expected" (.ref E1)) "actual" (.ref E2) = m₈ at *
  -- the call
  have B : Below A base [envOf "law" (scopeOf (stmtAt pg3 6)) L fa cd] s₈.heap := ⟨hst, F₈.keep, mkFrames (outer := []) (h₀ := s₈.heap) trivial (Kp.refl [] _) F₈⟩
  have szb : base.objs.size ≤ s₈.heap.objs.size := Nat.le_trans F₈.above (Nat.le_of_lt F₈.ns.lt)
  have Pl := plain3 h0 S1 S2 ok1 ok2
  have dL := frDict F₈
  have withOk : ∀ {h : Heap} {us : List Value} {K : List It}, All2 (RepT h) us K → (∀ x ∈ K, x.ok M) → All2 (RepU M h) us K := by
    intro h us K ha
    induction ha with
    | nil => exact fun _ => .nil
    | cons r _ ih => exact fun ok => .cons ⟨r, ok _ (.head _)⟩ (ih fun x hx => ok x (.tail _ hx))
  -- what follows
  have after : ∀ (s' : Shared) (tv : Value), ExL L s₈ s' → Fr base L s'.heap (upd m₈ "told" tv) →
      ((unl M K1 K2 = true ∧ tv = .none) ∨ (unl M K1 K2 = false ∧ ∃ t aM aU ms us n1 n2, tv = .ref t ∧ s'.heap.get? t = some (tupOf [.ref aM, .ref aU]) ∧ s'.heap.get? aM = some (listOf ms.toArray n1) ∧ s'.heap.get? aU = some (listOf us.toArray n2) ∧
        All2 (RepT s'.heap) ms (due (It.rk M) (K2.map (It.rk M)) none K1) ∧ All2 (RepT s'.heap) us (due (It.rk M) (K1.map (It.rk M)) none K2))) →
      wpAny (model prog w) A (execs ((bodyOf (stmtAt pg3 6)).drop 5) (envOf "law" (scopeOf (stmtAt pg3 6)) L fa cd)) Q No s' := by
    intro s' tv x F' ht
    have tk := TK.exL dL x
    exact law03b F' hh hr hu lim G4 fn4 G5 fn5 hRg hLn (upd_ne (by decide) k1) (upd_ne (by decide) k2) (upd_ne (by decide) k3) (upd_ne (by decide) k4) upd_same
      (x.keep _ _ D1L hD1₈) (x.keep _ _ D2L hD2₈) (x.keep _ _ E1L hE1₈) (x.keep _ _ E2L hE2) (A1₈.mono fun _ _ _ r => RepK.tk r tk) (A2₈.mono fun _ _ _ r => RepK.tk r tk) (B1₈.mono fun _ _ _ r => RepT.tk r tk) (B2.mono fun _ _ _ r => RepT.tk r tk)
      h0 ok1 ok2 (by omega) (by omega) S1 S2 ht fun s'' m'' F'' os gens => hQ s'' m'' F'' (os.trans (x.os.trans os₈)) (gens.trans (x.gens.trans gens₈))
  refine wpAny_execs_cons (wpAny_Try_except (wpAny_execs_cons (wpAny_Assign_Name (callName F₈ G1 fn1 (spliced_more (ld F₈ k3 (spliced_more (ld F₈ k4 (spliced_none ⟨F₈.keep,
    sld_call (Rep := RepU M s₈.heap) (X := K1) (Y := K2) (lt := ltU) (gt := gtU) (eq := It.beq) (outer := [envOf "law" (scopeOf (stmtAt pg3 6)) L fa cd])
      (sqList hE1₈ (fun q => E1L (List.mem_singleton.mp q)) (withOk B1₈ ok1) (by omega)) (sqList hE2 (fun q => E2L (List.mem_singleton.mp q)) (withOk B2 ok2) (by omega)) (eqU dL) (ltUok dL) (gtUok dL) (by omega) hr hh B szb lim hI fn1 ?_ ?_⟩)))))))))
  · intro s₉ t aM aU mm mu n1' n2' kp os gens ht nt hMM hUU nM nU MU fi
    obtain ⟨r, er, am, au⟩ := fi
    rw [Pl] at er
    cases hun : unl M K1 K2 with
    | true => rw [hun, if_pos rfl] at er; cases er
    | false =>
      rw [hun, if_neg (by decide)] at er
      cases er
      have x89 : ExL L s₈ s₉ := ⟨fun b o n e => kp.keep b o e fun q => n (List.mem_singleton.mp q), os, gens⟩
      have F₉ : Fr base L s₉.heap m₈ := frKp (S := []) F₈ kp (fun _ hb => by cases hb)
      refine st_ F₉ fun sa Fa ga => ?_
      repeat refine wpAny_execs_nil ?_
      have tL := neL F₈ nt
      have ML := neL F₈ nM
      have UL := neL F₈ nU
      have tk := TK.exL dL (x89.trans ga)
      exact after sa (.ref t) (x89.trans ga) Fa (.inr ⟨hun, t, aM, aU, mm, mu, n1', n2', rfl, ga.keep _ _ tL ht, ga.keep _ _ ML hMM, ga.keep _ _ UL hUU, am.mono fun _ _ _ r => RepT.tk r.1 tk, au.mono fun _ _ _ r => RepT.tk r.1 tk⟩)
  · intro hn hm s₉ e kp fl os gens
    rw [Pl] at hn
    have hun : unl M K1 K2 = true := by
      cases hun : unl M K1 K2 with
      | true => rfl
      | false => rw [hun, if_neg (by decide)] at hn; cases hn
    have fl₁ := Fly.rebase kp fl (Heap.get?_none_of_le (Nat.le_refl _))
    have FF₁ := fl₁.kp.frames B.frames
    refine note_ (L := L) hst FF₁ rfl fl₁ fun h₃ fl₃ FF₃ => flight_ fl₃ FF₃ fun h₄ fl₄ FF₄ => ?_
    refine wpAny_handleBy_builtin (X := "TypeError") (T := "TypeError") (b := true) PySem.F.isExc_TypeError (by with_unfolding_all rfl) type_is_type ?_
    refine nameB (s := { s₉ with heap := h₄ }) (frKp (S := []) F₈ fl₄.kp (fun _ hb => by cases hb)) hTy ⟨rfl, ?_, ?_⟩
    · obtain ⟨_, _, _, oe, vs, he, hc, _⟩ := fl₄
      exact ⟨oe, he, hc⟩
    rw [if_pos rfl]
    refine flight_ (s := { s₉ with heap := h₄ }) fl₄ FF₄ fun h₅ fl₅ FF₅ => ?_
    have F₅' : Fr base L h₅ m₈ := frKp (S := []) F₈ fl₅.kp (fun _ hb => by cases hb)
    refine wpAny_execs_cons (wpAny_Assign_Name (wpAny_Constant_none (st_ (s := { s₉ with heap := h₅ }) F₅' fun sa Fa ga => ?_)))
    repeat refine wpAny_execs_nil ?_
    have x89 : ExL L s₈ { s₉ with heap := h₅ } := ⟨fun b o n q => fl₅.keep b o q fun r => n (List.mem_singleton.mp r), os, gens⟩
    exact after sa .none (x89.trans ga) Fa (.inl ⟨hun, rfl⟩)
end

open_top hd for PySem.Challenge.rw_dn0234_03

theorem gn_of {K : Frag} {h : Heap} {mg : Str → Option Value} {n : Str} {v : Value} (X : K.In h) (G : h.Ns mainGlobals mg) (e : nsIn K mainGlobals n = some (some v)) : Gn h n v := ⟨mg, G, mg_of X G e⟩
theorem bn_of {K : Frag} {h : Heap} {mg mb : Str → Option Value} {p : Program} {loose : List Str} {n : Str} {v : Value} (X : K.In h) (T : TopRead p loose mg mb h) (e : nsIn K mainGlobals n = some none) (hv : bootBuiltins n = some v) (hn : n ≠ "__name__" := by decide) : Bn h n v :=
  ⟨mg, mb, T.g, mg_none_of X T.g e, T.b, by rw [T.builtins n hn]; exact hv⟩

theorem top03 : PySem.Challenge.rw_dn0234_03.Holds := hd (by
  k_go0
  rename_i hg KX X V GL T B TE TW w9 w8 M w7 w6 hcd w5 hs hlay0 hLa hr1 hl2 w4 w3 w2 w1 w0 hL ra ww r0 hI hr hc hct K0 hD h₁ F N0
  have TR := topRead_of T
  refine wpAny_mono (law03 (fa := _) (Q := fun f s' => f = .ret (.bool true) ∧ ∃ m', Fr _ _ s'.heap m' ∧ s'.os = _ ∧ s'.gens = _) F rfl (show callerA.depth + 1 < recursionLimit by decide) (show callerA.units + 3 < 6000 by decide) rfl TR.nolimit rfl hL (intsAll hI) (by omega)
    (gn_of KX TR.g (by with_unfolding_all rfl)) (fn_of_K KX (by with_unfolding_all rfl) (by with_unfolding_all rfl))
    (gn_of KX TR.g (by with_unfolding_all rfl)) (fn_of_K KX (by with_unfolding_all rfl) (by with_unfolding_all rfl))
    (gn_of KX TR.g (by with_unfolding_all rfl)) (fn_of_K KX (by with_unfolding_all rfl) (by with_unfolding_all rfl))
    (gn_of KX TR.g (by with_unfolding_all rfl)) (fn_of_K KX (by with_unfolding_all rfl) (by with_unfolding_all rfl))
    (bn_of KX TR (by with_unfolding_all rfl) (by with_unfolding_all rfl)) (bn_of KX TR (by with_unfolding_all rfl) (by with_unfolding_all rfl)) (bn_of KX TR (by with_unfolding_all rfl) (by with_unfolding_all rfl)) (bn_of KX TR (by with_unfolding_all rfl) (by with_unfolding_all rfl)) (bn_of KX TR (by with_unfolding_all rfl) (by with_unfolding_all rfl)) (bn_of KX TR (by with_unfolding_all rfl) (by with_unfolding_all rfl))
    fun s' m' F' os gens => ⟨rfl, m', F', os, gens⟩) (fun f s' q => ?_) fun _ _ q => q.elim
  obtain ⟨rfl, m', F', os, gens⟩ := q
  exact goodW_bool F' (gens.trans hg) (fun _ => rfl) (by with_unfolding_all rfl) os)
end Mine

theorem PySem.Challenge.cw_dn0234_03_holds : PySem.Challenge.rw_dn0234_03.Holds :=
  Mine.top03
